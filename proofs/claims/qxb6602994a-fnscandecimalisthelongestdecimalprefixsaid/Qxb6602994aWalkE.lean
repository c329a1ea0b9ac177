/- The walks of seat b6602994a: the automaton's run, and the law over it. -/
import Derived.Test.Qxb6602994aWalkD
namespace Go.Proofs.Qxb6602994a
open Go.RowKit Plain
set_option linter.unusedVariables false

theorem step_range (st : Int) (c : UInt8) (sep : Bool) : -1 ≤ Plain.step st c sep ∧ Plain.step st c sep ≤ 10 := by
  rw [step_eq]
  generalize dg c = d
  generalize (sep && isc 95 c) = u
  generalize ((c.toNat : Int) == 46) = p
  generalize isE c = e
  generalize ((c.toNat : Int) == 43) = g1
  generalize ((c.toNat : Int) == 45) = g2
  unfold stepB
  constructor <;> (repeat' split) <;> omega

set_option maxHeartbeats 1000000 in
theorem accepts_any (st : Int) (w : World) (h0 : 0 ≤ st) (h1 : st ≤ 10) :
    Calls Try.prog 34 #[.int .i64 st] w fun e w' => e = .returned (.bool (Plain.acc st)) ∧ w' = w := by
  have hst : st = 0 ∨ st = 1 ∨ st = 2 ∨ st = 3 ∨ st = 4 ∨ st = 5 ∨ st = 6 ∨ st = 7 ∨ st = 8 ∨ st = 9 ∨ st = 10 := by omega
  clear h0 h1
  rcases hst with rfl | rfl | rfl | rfl | rfl | rfl | rfl | rfl | rfl | rfl | rfl
  all_goals
    go_enter Try.func34, Try.ntmps34
    go_wp2
    go_ret
    exact ⟨rfl, rfl⟩

theorem step_at (st t : Int) (c : UInt8) (sep : Bool) (w : World) (h0 : 0 ≤ st) (h1 : st ≤ 10) (HT : Hid (Plain.step st c sep = t)) :
    Calls Try.prog 33 #[.int .i64 st, .int .u8 (c.toNat : Int), .bool sep] w fun e w' => e = .returned (.int .i64 t) ∧ w' = w := by
  have := step_any st c sep w h0 h1
  rw [HT.out] at this
  exact this
theorem accepts_at (st : Int) (b : Bool) (w : World) (h0 : 0 ≤ st) (h1 : st ≤ 10) (HT : Hid (Plain.acc st = b)) :
    Calls Try.prog 34 #[.int .i64 st] w fun e w' => e = .returned (.bool b) ∧ w' = w := by
  have := accepts_any st w h0 h1
  rw [HT.out] at this
  exact this

section math
variable {s : ByteArray} {sep : Bool} {st t : Int} {last k N : Nat}
theorem run_end (HR : Hid (Plain.run sep st last k ((bs s).drop k) = N)) (h : s.size ≤ k) : last = N := by
  have := HR.out; rw [bs_drop_end s k h] at this; exact this
theorem run_dead (HR : Hid (Plain.run sep st last k ((bs s).drop k) = N)) (h : k < s.size) (HT : Hid (Plain.step st s[k] sep = t)) (ht : t < 0) : last = N := by
  have := HR.out; rw [bs_drop s k h, Plain.run, HT.out, if_pos ht] at this; exact this
theorem run_acc (HR : Hid (Plain.run sep st last k ((bs s).drop k) = N)) (h : k < s.size) (HT : Hid (Plain.step st s[k] sep = t)) (ht : ¬ t < 0) (HA : Hid (Plain.acc t = true)) :
    Hid (Plain.run sep t (k + 1) (k + 1) ((bs s).drop (k + 1)) = N) := by
  have := HR.out; rw [bs_drop s k h, Plain.run, HT.out, if_neg ht, HA.out] at this; exact hide this
theorem run_not (HR : Hid (Plain.run sep st last k ((bs s).drop k) = N)) (h : k < s.size) (HT : Hid (Plain.step st s[k] sep = t)) (ht : ¬ t < 0) (HA : Hid (Plain.acc t = false)) :
    Hid (Plain.run sep t last (k + 1) ((bs s).drop (k + 1)) = N) := by
  have := HR.out; rw [bs_drop s k h, Plain.run, HT.out, if_neg ht, HA.out] at this; exact hide this
end math

set_option maxHeartbeats 1000000 in
theorem longest_any (s : ByteArray) (i : Nat) (sep : Bool) (w : World) (hs : s.size ≤ 1048576) (hi : i ≤ 9223372036854775807) :
    Calls Try.prog 19 #[.string s, .int .i64 i, .bool sep] w fun e w' => e = .returned (.int .i64 (Plain.run sep 0 i i ((bs s).drop i) : Nat)) ∧ w' = w := by
  generalize hN : Plain.run sep 0 i i ((bs s).drop i) = N
  have HN := hide hN
  clear hN
  go_enter Try.func19, Try.ntmps19
  go_wp2
  go_loop [7, 8, 9] (fun vl vs vp => ∃ (last k : Nat) (st : Int), vl = .int .i64 last ∧ vs = .int .i64 st ∧ vp = .int .i64 k ∧ 0 ≤ st ∧ st ≤ 10 ∧ k ≤ 9223372036854775807 ∧ Hid (Plain.run sep st last k ((bs s).drop k) = N)) (fun _ _ v => s.size - (intOf v).toNat)
  case atStart => exact ⟨i, i, 0, rfl, rfl, rfl, by omega, by omega, hi, HN⟩
  case round =>
    clear HN
    obtain ⟨last, k, st, rfl, rfl, rfl, hs0, hs1, hk, HR⟩ := hrel
    by_cases hlt : k < s.size
    · obtain ⟨t, HT⟩ : ∃ t, Hid (Plain.step st s[k] sep = t) := ⟨_, hide rfl⟩
      have ht1 : t ≤ 10 := by rw [← HT.out]; exact (step_range _ _ _).2
      by_cases ht : t < 0
      · have HE := hide (run_dead HR hlt HT ht)
        go_wp2_with fail
        refine (step_at st t s[k] sep _ hs0 hs1 HT).mono ?_
        rintro e w' ⟨rfl, rfl⟩
        go_wp2_with fail
        go_ret
        exact ⟨ret_int (by rw [HE.out]), rfl⟩
      · by_cases ha : Plain.acc t = true
        · have HA := hide ha
          clear ha
          go_wp2_with fail
          refine (step_at st t s[k] sep _ hs0 hs1 HT).mono ?_
          rintro e w' ⟨rfl, rfl⟩
          go_wp2_with fail
          refine (accepts_at t true _ (by omega) ht1 HA).mono ?_
          rintro e w' ⟨rfl, rfl⟩
          go_wp2_with fail
          go_round
          case rel => exact ⟨k + 1, k + 1, t, by go_num, rfl, by go_num, by omega, ht1, by omega, run_acc HR hlt HT (by omega) HA⟩
          case measure => simp [intOf]; omega
        · have HA : Hid (Plain.acc t = false) := hide (by simpa using ha)
          clear ha
          go_wp2_with fail
          refine (step_at st t s[k] sep _ hs0 hs1 HT).mono ?_
          rintro e w' ⟨rfl, rfl⟩
          go_wp2_with fail
          refine (accepts_at t false _ (by omega) ht1 HA).mono ?_
          rintro e w' ⟨rfl, rfl⟩
          go_wp2_with fail
          go_round
          case rel => exact ⟨last, k + 1, t, rfl, rfl, by go_num, by omega, ht1, by omega, run_not HR hlt HT (by omega) HA⟩
          case measure => simp [intOf]; omega
    · have hge : (s.size : Int) ≤ (k : Int) := by omega
      have HE := hide (run_end HR (by omega))
      go_wp2
      go_ret
      exact ⟨ret_int (by rw [HE.out]), rfl⟩

set_option maxHeartbeats 400000 in
theorem zzBytes17_any (s : ByteArray) (i : Int) (sep : Bool) (w : World) (hs : s.size ≤ maxLen) :
    Calls Try.prog 17 #[.string s, .int .i64 i, .bool sep] w fun e w' => e = .returned (.bool (decide (s.size ≤ 1048576))) ∧ w' = w := by
  unfold maxLen at hs
  by_cases h : s.size ≤ 1048576
  · go_enter Try.func17, Try.ntmps17
    go_wp2
    go_ret
    exact ⟨ret_bool (by simp [h]), rfl⟩
  · have h' : (1048576 : Int) < (s.size : Int) := by omega
    go_enter Try.func17, Try.ntmps17
    go_wp2
    go_ret
    exact ⟨ret_bool (by simp; omega), rfl⟩

theorem longest_at (s : ByteArray) (i N : Nat) (sep : Bool) (HN : Hid (i + scanL sep ((bs s).drop i) = N)) (w : World) (hs : s.size ≤ 1048576) (hi : i ≤ 9223372036854775807) :
    Calls Try.prog 19 #[.string s, .int .i64 i, .bool sep] w fun e w' => e = .returned (.int .i64 N) ∧ w' = w := by
  have := longest_any s i sep w hs hi
  rw [run_scan, HN.out] at this
  exact this

set_option maxHeartbeats 1000000 in
theorem prefix_any (s : ByteArray) (i : Int) (sep : Bool) (w : World) (hs : s.size ≤ maxLen) (hi : i ≤ 9223372036854775807) :
    Calls Try.prog 5 #[.string s, .int .i64 i, .bool sep] w fun e w' => e = .returned (.bool true) ∧ w' = w := by
  have hz := zzBytes17_any s i sep w hs
  by_cases hb : s.size ≤ 1048576
  · rw [decide_eq_true hb] at hz
    have hz := hide hz
    by_cases hneg : i < 0
    · go_enter Try.func5, Try.ntmps5
      go_wp2_with fail
      refine hz.out.mono ?_
      rintro e w' ⟨rfl, rfl⟩
      go_wp2_with fail
      go_ret
      exact ⟨rfl, rfl⟩
    · obtain ⟨n, rfl⟩ : ∃ n : Nat, i = n := ⟨i.toNat, by omega⟩
      have hn : n ≤ 9223372036854775807 := by omega
      clear hneg hi
      obtain ⟨N, HN⟩ : ∃ N, Hid (n + scanL sep ((bs s).drop n) = N) := ⟨_, hide rfl⟩
      go_enter Try.func5, Try.ntmps5
      go_wp2_with fail
      refine hz.out.mono ?_
      rintro e w' ⟨rfl, rfl⟩
      go_wp2_with fail
      refine (zzScan_at s n N sep HN _ hb hn).mono ?_
      rintro e w' ⟨rfl, rfl⟩
      go_wp2_with fail
      refine (longest_at s n N sep HN _ hb hn).mono ?_
      rintro e w' ⟨rfl, rfl⟩
      go_wp2_with fail
      go_ret
      exact ⟨rfl, rfl⟩
  · rw [decide_eq_false hb] at hz
    have hz := hide hz
    go_enter Try.func5, Try.ntmps5
    go_wp2_with fail
    refine hz.out.mono ?_
    rintro e w' ⟨rfl, rfl⟩
    go_wp2_with fail
    go_ret
    exact ⟨rfl, rfl⟩
end Go.Proofs.Qxb6602994a
