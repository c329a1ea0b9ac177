/- The walks of seat b6602994a: the automaton. -/
import Derived.Test.Qxb6602994aWalkC
namespace Go.Proofs.Qxb6602994a
open Go.RowKit Plain
set_option linter.unusedVariables false

set_option maxHeartbeats 400000 in
theorem isDig_any (n : Int) (w : World) :
    Calls Try.prog 40 #[.int .u8 n] w fun e w' => e = .returned (.bool (decide (48 ≤ n) && decide (n ≤ 57))) ∧ w' = w := by
  by_cases h : 48 ≤ n
  · by_cases h2 : n ≤ 57
    · go_enter Try.func40, Try.ntmps40
      go_wp2
      go_ret
      exact ⟨ret_bool (by simp [h, h2]), rfl⟩
    · go_enter Try.func40, Try.ntmps40
      go_wp2
      go_ret
      exact ⟨ret_bool (by simp [h2]), rfl⟩
  · go_enter Try.func40, Try.ntmps40
    go_wp2
    go_ret
    exact ⟨ret_bool (by simp; omega), rfl⟩

theorem isDig_of (c : UInt8) (b : Bool) (h : Hid (dg c = b)) (w : World) :
    Calls Try.prog 40 #[.int .u8 (c.toNat : Int)] w fun e w' => e = .returned (.bool b) ∧ w' = w := by
  refine (isDig_any _ w).mono fun e w' he => ?_
  rw [← h.out]; exact he

/-- The automaton's step, over what is asked of the byte. -/
def stepB (st : Int) (d u p e g1 g2 : Bool) : Int :=
  if st = 0 then (if d then 1 else if p then 4 else -1)
  else if st = 1 then (if d then 1 else if u then 2 else if p then 3 else if e then 7 else -1)
  else if st = 2 then (if d then 1 else -1)
  else if st = 3 then (if d then 5 else if e then 7 else -1)
  else if st = 4 then (if d then 5 else -1)
  else if st = 5 then (if d then 5 else if u then 6 else if e then 7 else -1)
  else if st = 6 then (if d then 5 else -1)
  else if st = 7 then (if d then 9 else if g1 || g2 then 8 else -1)
  else if st = 8 then (if d then 9 else -1)
  else if st = 9 then (if d then 9 else if u then 10 else -1)
  else if st = 10 then (if d then 9 else -1)
  else -1
theorem step_eq (st : Int) (c : UInt8) (sep : Bool) : Plain.step st c sep = stepB st (dg c) (sep && isc 95 c) ((c.toNat : Int) == 46) (isE c) ((c.toNat : Int) == 43) ((c.toNat : Int) == 45) := rfl

set_option maxRecDepth 100000 in
set_option maxHeartbeats 2000000 in
theorem step_any (st : Int) (c : UInt8) (sep : Bool) (w : World) (h0 : 0 ≤ st) (h1 : st ≤ 10) :
    Calls Try.prog 33 #[.int .i64 st, .int .u8 (c.toNat : Int), .bool sep] w fun e w' => e = .returned (.int .i64 (Plain.step st c sep)) ∧ w' = w := by
  obtain ⟨d, HD⟩ : ∃ b, Hid (dg c = b) := ⟨_, hide rfl⟩
  obtain ⟨u, HU⟩ : ∃ b, Hid ((sep && isc 95 c) = b) := ⟨_, hide rfl⟩
  obtain ⟨e, HE⟩ : ∃ b, Hid (isE c = b) := ⟨_, hide rfl⟩
  go_enter Try.func33, Try.ntmps33
  go_upto_region 2 with (go_at_call 40; refine (isDig_of c d HD _).mono ?_; rintro e w' ⟨rfl, rfl⟩)
  go_cut [8] (fun v wx => v = .bool u ∧ wx = w')
  case first =>
    cases sep
    · go_wp2
      go_meet
      exact ⟨by rw [← HU.out]; rfl, rfl⟩
    · go_wp2
      go_meet
      exact ⟨by rw [← HU.out]; rfl, rfl⟩
  case rest =>
  obtain ⟨rfl, rfl⟩ := hcut
  go_upto_region 3 with fail
  go_cut [9] (fun v wx => v = .bool e ∧ wx = wc)
  case first =>
    by_cases h : isc 101 c = true
    · have h' : ((c.toNat : Int) == 101) = true := h
      have HE2 : Hid (e = true) := hide (by rw [← HE.out]; simp [isE, h])
      clear h
      go_wp2
      go_meet
      exact ⟨by rw [HE2.out], rfl⟩
    · have h' : ((c.toNat : Int) == 101) = false := by simpa [isc] using h
      have HE2 : Hid (e = ((c.toNat : Int) == 69)) := hide (by rw [← HE.out]; simp [isE, h]; rfl)
      clear h
      go_wp2
      go_meet
      exact ⟨by rw [HE2.out], rfl⟩
  case rest =>
  obtain ⟨rfl, rfl⟩ := hcut
  obtain ⟨p, hp⟩ : ∃ b, ((c.toNat : Int) == 46) = b := ⟨_, rfl⟩
  obtain ⟨g1, hg1⟩ : ∃ b, ((c.toNat : Int) == 43) = b := ⟨_, rfl⟩
  obtain ⟨g2, hg2⟩ : ∃ b, ((c.toNat : Int) == 45) = b := ⟨_, rfl⟩
  have hst : st = 0 ∨ st = 1 ∨ st = 2 ∨ st = 3 ∨ st = 4 ∨ st = 5 ∨ st = 6 ∨ st = 7 ∨ st = 8 ∨ st = 9 ∨ st = 10 := by omega
  clear h0 h1
  have HSt : Hid (Plain.step st c sep = stepB st d u p e g1 g2) := hide (by rw [step_eq, HD.out, HU.out, HE.out, hp, hg1, hg2])
  clear HD HU HE
  rcases hst with rfl | rfl | rfl | rfl | rfl | rfl | rfl | rfl | rfl | rfl | rfl
  all_goals
    go_wp2
    all_goals (go_ret; refine ⟨ret_int ?_, rfl⟩; rw [HSt.out]; clear hp hg1 hg2 HSt; first | (subst_vars; rfl) | (rename_i hq1 _; have hq2 : g1 = false := Bool.eq_false_iff.mpr hq1; clear hq1; subst_vars; rfl))
end Go.Proofs.Qxb6602994a
