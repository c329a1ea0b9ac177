/- The walk of FnWantedIsRoomPlusEvictable. -/
import Derived.Test.Qxb6602998aWalkC
namespace Go.Proofs.Qxb6602998a
open Go.RowKit
set_option linter.unusedVariables false

theorem best_one (p : Int × Int) : best (fun _ => p) 1 = if sv p = true then 0 else -1 := by
  simp [best]

set_option maxHeartbeats 400000 in
theorem zzBytes16_any (h : Int) (a : Option Addr) (n cap : Nat) (w : World) (hn : n ≤ 9223372036854775807) :
    Calls Try.prog 16 #[.int .i64 h, .slice a n cap] w fun e w' => e = .returned (.bool (decide (n ≤ 1048576))) ∧ w' = w := by
  by_cases hb : n ≤ 1048576
  · go_enter Try.func16, Try.ntmps16
    go_wp2
    go_ret
    exact ⟨ret_bool (by simp [hb]), rfl⟩
  · have h' : (1048576 : Int) < (n : Int) := by omega
    go_enter Try.func16, Try.ntmps16
    go_wp2
    go_ret
    exact ⟨ret_bool (by simp; omega), rfl⟩

theorem pairs_new (w : World) (p : Int × Int) : Pairs (w.alloc (.cells #[.int .i64 p.1, .int .i64 p.2] 29)) w.heap.size 0 1 (fun _ => p) := by
  intro i hi
  have : i = 0 := by omega
  subst this
  exact ⟨by simp, by simp⟩

theorem evict_one (p : Int × Int) (v : Bool) (hv : sv p = v) (w : World) :
    Calls Try.prog 11 #[.int .i64 80, .slice (some ⟨w.heap.size, 0, none⟩) 1 1] (w.alloc (.cells #[.int .i64 p.1, .int .i64 p.2] 29)) fun e w' =>
      e = .returned (.int .i64 (if v = true then 0 else -1)) ∧ Below w.heap.size w w' := by
  refine (evict_full 80 (some ⟨w.heap.size, 0, none⟩) w.heap.size 1 1 (fun _ => p) _ (by omega) (by omega) (fun _ => rfl) (pairs_new w p) (fun _ => by simp)).mono fun e w' ⟨he, hb⟩ => ?_
  rw [best_one, hv] at he
  exact ⟨he, ((Below.refl _ _).alloc (Nat.le_refl _) _).trans (hb.mono (by simp))⟩

set_option maxHeartbeats 2000000 in
theorem room_walk (h : Int) (a : Option Addr) (b off n cap : Nat) (F : Nat → Int × Int) (w : World) (h0 : 0 ≤ h) (h1 : h ≤ 9223372036854775807) (hb : n ≤ 65536) (hC : Came w a b off n cap F)
    (hz : Hid (Calls Try.prog 16 #[.int .i64 h, .slice a n cap] w fun e w' => e = .returned (.bool true) ∧ w' = w)) :
    Calls Try.prog 5 #[.int .i64 h, .slice a n cap] w fun e w' => e = .returned (.bool true) ∧ Below w.heap.size w w' := by
  have hT := hide (toPushed_any a b off n cap F w (by omega) hC)
  clear hC
  obtain ⟨R, HR⟩ : ∃ R : Int, Hid (max (80 - h) 0 = R) := ⟨_, hide rfl⟩
  have hR0 : 0 ≤ R := by have := HR.out; omega
  have hR1 : R ≤ 80 := by have := HR.out; omega
  go_enter Try.func5, Try.ntmps5
  go_wp2_with fail
  refine hz.out.mono ?_
  rintro e w' ⟨rfl, rfl⟩
  go_wp2_with fail
  refine hT.out.mono ?_
  rintro e w1 ⟨a', b', cap', rfl, ha', hp', hb', hnx⟩
  clear hz hT
  have HA := hide ha'
  have HP := hide hp'
  have HB := hide hb'
  clear ha' hp' hb'
  go_upto_if 22 with fail
  go_cut [6] (fun v wx => v = .int .i64 R ∧ wx = w1)
  case first =>
    by_cases hh : h < 80
    · go_wp2
      go_meet
      exact ⟨by congr 1; have := HR.out; omega, rfl⟩
    · go_wp2
      go_meet
      exact ⟨by congr 1; have := HR.out; omega, rfl⟩
  case rest =>
  obtain ⟨rfl, rfl⟩ := hcut
  go_wp2
  go_loopw [7, 8] (fun v i wr => ∃ k : Nat, k ≤ n ∧ i = .int .i64 k ∧ v = .int .i64 (cnt F k) ∧ Below wc.heap.size wc wr) (fun _ i _ => n - (intOf i).toNat)
  case atStart => exact ⟨0, Nat.zero_le _, rfl, rfl, Below.refl _ _⟩
  case round =>
    obtain ⟨k, hk, rfl, rfl, hnr⟩ := hrel
    have hc := cnt_le F k
    have hsz := hnr.size
    by_cases hlt : k < n
    · obtain rfl := HA.out (by omega)
      have hcx := (HP.out.below hnr HB.out) k hlt
      rw [Nat.zero_add] at hcx
      obtain ⟨c0, c1⟩ := hcx
      have HC : Hid (cnt F (k + 1) = cnt F k + if sv (F k) then 1 else 0) := hide rfl
      have i1 : (k : Int) < (n : Int) := by omega
      by_cases hsv : sv (F k) = true
      · have HV := hide hsv
        clear hsv
        go_wp2_with fail
        refine (evict_one (F k) true HV.out wr).mono ?_
        rintro e w4 ⟨rfl, hn4⟩
        go_wp2_with fail
        go_roundw
        case rel => exact ⟨k + 1, by omega, by go_num, by congr 1; rw [HC.out, HV.out]; simp, hnr.trans (hn4.mono hsz)⟩
        case measure => simp [intOf]; omega
      · have HV : Hid (sv (F k) = false) := hide (by simpa using hsv)
        clear hsv
        go_wp2_with fail
        refine (evict_one (F k) false HV.out wr).mono ?_
        rintro e w4 ⟨rfl, hn4⟩
        go_wp2_with fail
        go_roundw
        case rel => exact ⟨k + 1, by omega, by go_num, by congr 1; rw [HC.out, HV.out]; simp, hnr.trans (hn4.mono hsz)⟩
        case measure => simp [intOf]; omega
    · go_wp2_with fail
      refine (wanted_any h a' b' n cap' F wr h0 h1 (by omega) HA.out (HP.out.below hnr HB.out) (fun h => by have := HB.out h; omega)).mono ?_
      rintro e w5 ⟨rfl, hnx4⟩
      have hs1 := hnx.size
      go_wp2_with fail
      go_ret
      exact ⟨ret_bool (by have := HR.out; rw [show k = n from by omega]; simp [this]), (hnx.trans (hnr.mono (by omega))).trans (hnx4.mono (by omega))⟩

set_option maxHeartbeats 1000000 in
theorem room_any (h : Int) (a : Option Addr) (b off n cap : Nat) (F : Nat → Int × Int) (w : World) (h1 : h ≤ 9223372036854775807) (hn : n ≤ 9223372036854775807) (hC : Came w a b off n cap F) :
    Calls Try.prog 5 #[.int .i64 h, .slice a n cap] w fun e w' => e = .returned (.bool true) ∧ Below w.heap.size w w' := by
  have hz := zzBytes16_any h a n cap w hn
  by_cases hb : n ≤ 65536
  · rw [decide_eq_true (show n ≤ 1048576 by omega)] at hz
    by_cases h0 : 0 ≤ h
    · exact room_walk h a b off n cap F w h0 h1 hb hC (hide hz)
    · have hz := hide hz
      clear hC
      go_enter Try.func5, Try.ntmps5
      go_wp2_with fail
      refine hz.out.mono ?_
      rintro e w' ⟨rfl, rfl⟩
      go_wp2_with fail
      go_ret
      exact ⟨rfl, Below.refl _ _⟩
  · by_cases hb2 : n ≤ 1048576
    · rw [decide_eq_true hb2] at hz
      have hz := hide hz
      have h' : (65536 : Int) < (n : Int) := by omega
      go_enter Try.func5, Try.ntmps5
      go_wp2_with fail
      refine hz.out.mono ?_
      rintro e w' ⟨rfl, rfl⟩
      go_wp2_with fail
      go_ret
      exact ⟨rfl, Below.refl _ _⟩
    · rw [decide_eq_false hb2] at hz
      have hz := hide hz
      go_enter Try.func5, Try.ntmps5
      go_wp2_with fail
      refine hz.out.mono ?_
      rintro e w' ⟨rfl, rfl⟩
      go_wp2_with fail
      go_ret
      exact ⟨rfl, Below.refl _ _⟩
end Go.Proofs.Qxb6602998a
