/- The walk of FnEvictPicksFirstRichestServed. -/
import Derived.Test.Qxb6602998aWalkD
namespace Go.Proofs.Qxb6602998a
open Go.RowKit
set_option linter.unusedVariables false

theorem best_spec (F : Nat → Int × Int) (n : Nat) : ∀ q : Nat, best F n = q →
    sv (F q) = true ∧ q < n ∧ ∀ j, j < n → sv (F j) = true → (F j).1 ≤ (F q).1 ∧ (j < q → (F j).1 < (F q).1) := by
  induction n with
  | zero => intro q h; simp [best] at h
  | succ n ih =>
    intro q h
    simp only [best] at h
    by_cases hc : sv (F n) = true ∧ (best F n < 0 ∨ (F (best F n).toNat).1 < (F n).1)
    · rw [if_pos hc] at h
      have hq : q = n := by omega
      subst hq
      refine ⟨hc.1, by omega, fun j hj hs => ?_⟩
      by_cases hjn : j = q
      · subst hjn; exact ⟨Int.le_refl _, by omega⟩
      · rcases hc.2 with hneg | hlt
        · have h0 : ¬ 0 < cnt F q := fun h => by have := (best_cnt F q).2 h; omega
          exact absurd (cnt_pos F q j (by omega) hs) h0
        · by_cases hneg : best F q < 0
          · have h0 : ¬ 0 < cnt F q := fun h => by have := (best_cnt F q).2 h; omega
            exact absurd (cnt_pos F q j (by omega) hs) h0
          · have := (ih (best F q).toNat (by omega)).2.2 j (by omega) hs
            exact ⟨by omega, fun _ => by omega⟩
    · rw [if_neg hc] at h
      obtain ⟨h1, h2, h3⟩ := ih q h
      refine ⟨h1, by omega, fun j hj hs => ?_⟩
      by_cases hjn : j = n
      · subst hjn
        refine ⟨?_, by omega⟩
        have hr : ¬ (best F j < 0 ∨ (F (best F j).toNat).1 < (F j).1) := fun hx => hc ⟨hs, hx⟩
        rw [h] at hr
        simp at hr
        omega
      · exact h3 j (by omega) hs
where
  cnt_pos (F : Nat → Int × Int) : ∀ (n j : Nat), j < n → sv (F j) = true → 0 < cnt F n
  | 0, j, h, _ => by omega
  | n + 1, j, h, hs => by
    simp only [cnt]
    by_cases e : j = n
    · subst e; simp [hs]
    · have := cnt_pos F n j (by omega) hs; omega

set_option maxHeartbeats 400000 in
theorem zzBytes9_any (h : Int) (a : Option Addr) (n cap : Nat) (w : World) (hn : n ≤ 9223372036854775807) :
    Calls Try.prog 9 #[.int .i64 h, .slice a n cap] w fun e w' => e = .returned (.bool (decide (n ≤ 1048576))) ∧ w' = w := by
  by_cases hb : n ≤ 1048576
  · go_enter Try.func9, Try.ntmps9
    go_wp2
    go_ret
    exact ⟨ret_bool (by simp [hb]), rfl⟩
  · have h' : (1048576 : Int) < (n : Int) := by omega
    go_enter Try.func9, Try.ntmps9
    go_wp2
    go_ret
    exact ⟨ret_bool (by simp; omega), rfl⟩

set_option maxRecDepth 100000 in
set_option maxHeartbeats 4000000 in
theorem picks_full (h : Int) (a : Option Addr) (b off n cap : Nat) (F : Nat → Int × Int) (w : World) (h0 : 80 ≤ h) (hb : n ≤ 65536) (hC : Came w a b off n cap F)
    (hz : Hid (Calls Try.prog 9 #[.int .i64 h, .slice a n cap] w fun e w' => e = .returned (.bool true) ∧ w' = w)) :
    Calls Try.prog 3 #[.int .i64 h, .slice a n cap] w fun e w' => e = .returned (.bool true) ∧ Below w.heap.size w w' := by
  have hT := hide (toPushed_any a b off n cap F w (by omega) hC)
  clear hC
  obtain ⟨g, HG⟩ : ∃ g, Hid (best F n = g) := ⟨_, hide rfl⟩
  obtain ⟨g0, g1⟩ : -1 ≤ g ∧ g < n := by have := best_range F n; rw [HG.out] at this; exact this
  go_enter Try.func3, Try.ntmps3
  go_wp2_with fail
  refine hz.out.mono ?_
  rintro e w' ⟨rfl, rfl⟩
  go_wp2_with fail
  refine hT.out.mono ?_
  rintro e w1 ⟨a', b', cap', rfl, ha', hp', hb', hnx⟩
  clear hz hT
  have HA := hide ha'
  have HP := hide hp'
  have HB := hide hb'
  clear ha' hp' hb'
  go_wp2_with fail
  refine (evict_full h a' b' n cap' F w1 (by omega) (by omega) HA.out HP.out HB.out).mono ?_
  rintro e w2 ⟨rfl, hnx2⟩
  have hs2 := hnx2.size
  have hs1 := hnx.size
  rw [HG.out]
  have HP2 : Hid (Pairs w2 b' 0 n F) := hide (HP.out.below hnx2 HB.out)
  have HB2 : Hid (0 < n → b' < w2.heap.size) := hide (fun h => by have := HB.out h; omega)
  have hb0 : Below w'.heap.size w' w2 := hnx.trans (hnx2.mono (by omega))
  clear HP HB hnx hnx2
  go_wp2_with fail
  go_loopw [7, 8] (fun v i wr => ∃ k : Nat, k ≤ n ∧ i = .int .i64 k ∧ v = .bool (decide (0 < cnt F k)) ∧ Below w2.heap.size w2 wr) (fun _ i _ => n - (intOf i).toNat)
  case atStart => exact ⟨0, Nat.zero_le _, rfl, rfl, Below.refl _ _⟩
  case round =>
    obtain ⟨k, hk, rfl, rfl, hnr⟩ := hrel
    have hsz := hnr.size
    by_cases hlt : k < n
    · obtain rfl := HA.out (by omega)
      have hcx := (HP2.out.below hnr HB2.out) k hlt
      rw [Nat.zero_add] at hcx
      obtain ⟨c0, c1⟩ := hcx
      have HC : Hid (cnt F (k + 1) = cnt F k + if sv (F k) then 1 else 0) := hide rfl
      have i1 : (k : Int) < (n : Int) := by omega
      by_cases hsv : sv (F k) = true
      · have HV := hide hsv
        clear hsv
        go_wp2_with fail
        refine (servedB1_at (F k) true HV.out _).mono ?_
        rintro e w4 ⟨rfl, rfl⟩
        go_wp2_with fail
        go_roundw
        case rel => exact ⟨k + 1, by omega, by go_num, by congr 1; rw [HC.out, HV.out]; simp, hnr.alloc hsz _⟩
        case measure => simp [intOf]; omega
      · have HV : Hid (sv (F k) = false) := hide (by simpa using hsv)
        clear hsv
        go_wp2_with fail
        refine (servedB1_at (F k) false HV.out _).mono ?_
        rintro e w4 ⟨rfl, rfl⟩
        go_wp2_with fail
        go_roundw
        case rel => exact ⟨k + 1, by omega, by go_num, by congr 1; rw [HC.out, HV.out]; simp, hnr.alloc hsz _⟩
        case measure => simp [intOf]; omega
    · obtain rfl : k = n := by omega
      have HC := hide (best_cnt F k)
      by_cases hg : g < 0
      · have hd : decide (0 < cnt F k) = false := decide_eq_false (fun h => by have := HC.out.2 h; rw [HG.out] at this; omega)
        have hg1 : g = -1 := by omega
        subst hg1
        go_wp2
        go_ret
        exact ⟨rfl, hb0.trans (hnr.mono (by omega))⟩
      · have hd : decide (0 < cnt F k) = true := decide_eq_true (HC.out.1 (by rw [HG.out]; omega))
        obtain ⟨q, rfl⟩ : ∃ q : Nat, g = q := ⟨g.toNat, by omega⟩
        obtain ⟨s1, s2, s3⟩ := best_spec F k q HG.out
        obtain rfl := HA.out (by omega)
        have HS := hide s3
        have HV := hide s1
        have hcx := (HP2.out.below hnr HB2.out) q s2
        rw [Nat.zero_add] at hcx
        obtain ⟨c0, c1⟩ := hcx
        have i1 : (q : Int) < (k : Int) := by omega
        have i1d : decide (k ≤ q) = false := decide_eq_false (by omega)
        have i1e : decide ((k : Int) ≤ (q : Int)) = false := decide_eq_false (by omega)
        clear s3 s1
        go_wp2_with fail
        refine (servedB1_at (F q) true HV.out _).mono ?_
        rintro e w4 ⟨rfl, rfl⟩
        have hb4 := hnr.alloc hsz (.cells #[.int .i64 (F q).1, .int .i64 (F q).2] 29)
        clear c0 c1 hlt hd
        go_wp2_with fail
        go_loopw [9] (fun i wx => ∃ j : Nat, j ≤ k ∧ i = .int .i64 j ∧ Below w2.heap.size w2 wx) (fun i _ => k - (intOf i).toNat)
        case atStart => exact ⟨0, Nat.zero_le _, rfl, hb4⟩
        case round =>
          clear hb4
          obtain ⟨j, hj, rfl, hnj⟩ := hrel
          have hsj := hnj.size
          by_cases hlt : j < k
          · have hPj := HP2.out.below hnj HB2.out
            have hcx := hPj j hlt
            have hcq := (hPj q s2).1
            rw [Nat.zero_add] at hcx hcq
            obtain ⟨c0, c1⟩ := hcx
            clear hPj
            have hbw : b' < wr.heap.size := by have := HB2.out (by omega); omega
            have i2 : (j : Int) < (k : Int) := by omega
            have i3 : (0 : Int) ≤ (j : Int) := by omega
            by_cases hsv : sv (F j) = true
            · have HV2 := hide hsv
              obtain ⟨e1, e2⟩ := HS.out j hlt hsv
              have HE2 := hide e2
              clear e2
              clear hsv
              have e1' : decide ((F q).1 < (F j).1) = false := decide_eq_false (by omega)
              go_wp2_with fail
              refine (servedB1_at (F j) true HV2.out _).mono ?_
              rintro e w5 ⟨rfl, rfl⟩
              go_wp2_with fail
              go_quiet (fail)
              go_wp2_with fail
              by_cases hjq : j < q
              · have e3 : ((F j).1 == (F q).1) = false := by have := HE2.out hjq; simp; omega
                have i4 : (j : Int) < (q : Int) := by omega
                go_quiet (fail)
                go_wp2_with fail
                go_roundw
                case rel => exact ⟨j + 1, by omega, by go_num, below_drewN (hnj.alloc hsj _) _⟩
                case measure => simp [intOf]; omega
              · have e3 : decide ((j : Int) < (q : Int)) = false := decide_eq_false (by omega)
                go_quiet (fail)
                go_wp2_with fail
                go_roundw
                case rel => exact ⟨j + 1, by omega, by go_num, below_drewN (hnj.alloc hsj _) _⟩
                case measure => simp [intOf]; omega
            · have HV2 : Hid (sv (F j) = false) := hide (by simpa using hsv)
              clear hsv
              go_wp2_with fail
              refine (servedB1_at (F j) false HV2.out _).mono ?_
              rintro e w5 ⟨rfl, rfl⟩
              go_wp2_with fail
              go_roundw
              case rel => exact ⟨j + 1, by omega, by go_num, hnj.alloc hsj _⟩
              case measure => simp [intOf]; omega
          · go_wp2
            go_ret
            exact ⟨rfl, hb0.trans (hnj.mono (by omega))⟩

set_option maxHeartbeats 1000000 in
theorem picks_any (h : Int) (a : Option Addr) (b off n cap : Nat) (F : Nat → Int × Int) (w : World) (h1 : h ≤ 9223372036854775807) (hn : n ≤ 9223372036854775807) (hC : Came w a b off n cap F) :
    Calls Try.prog 3 #[.int .i64 h, .slice a n cap] w fun e w' => e = .returned (.bool true) ∧ Below w.heap.size w w' := by
  have hz := zzBytes9_any h a n cap w hn
  by_cases hb : n ≤ 65536
  · rw [decide_eq_true (show n ≤ 1048576 by omega)] at hz
    by_cases h0 : 80 ≤ h
    · exact picks_full h a b off n cap F w h0 hb hC (hide hz)
    · have hh : h < 80 := by omega
      have hT := hide (toPushed_any a b off n cap F w (by omega) hC)
      have hz := hide hz
      clear hC
      go_enter Try.func3, Try.ntmps3
      go_wp2_with fail
      refine hz.out.mono ?_
      rintro e w' ⟨rfl, rfl⟩
      go_wp2_with fail
      refine hT.out.mono ?_
      rintro e w1 ⟨a', b', cap', rfl, ha', hp', hb', hnx⟩
      clear hz hT ha' hp' hb'
      go_wp2_with fail
      refine (evict_room h a' n cap' w1 hh).mono ?_
      rintro e w2 ⟨rfl, rfl⟩
      go_wp2_with fail
      go_ret
      exact ⟨rfl, hnx⟩
  · by_cases hb2 : n ≤ 1048576
    · rw [decide_eq_true hb2] at hz
      have hz := hide hz
      have h' : (65536 : Int) < (n : Int) := by omega
      go_enter Try.func3, Try.ntmps3
      go_wp2_with fail
      refine hz.out.mono ?_
      rintro e w' ⟨rfl, rfl⟩
      go_wp2_with fail
      go_ret
      exact ⟨rfl, Below.refl _ _⟩
    · rw [decide_eq_false hb2] at hz
      have hz := hide hz
      go_enter Try.func3, Try.ntmps3
      go_wp2_with fail
      refine hz.out.mono ?_
      rintro e w' ⟨rfl, rfl⟩
      go_wp2_with fail
      go_ret
      exact ⟨rfl, Below.refl _ _⟩
end Go.Proofs.Qxb6602998a
