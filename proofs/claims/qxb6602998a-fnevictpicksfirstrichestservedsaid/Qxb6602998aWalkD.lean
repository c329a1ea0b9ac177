/- The walk of FnEvictFullOriginAgreesWithWanted. -/
import Derived.Test.Qxb6602998aWalkC
namespace Go.Proofs.Qxb6602998a
open Go.RowKit
set_option linter.unusedVariables false

theorem best_cnt (F : Nat → Int × Int) (j : Nat) : (0 ≤ best F j) ↔ (0 < cnt F j) := by
  induction j with
  | zero => simp [best, cnt]
  | succ j ih =>
    have hr := best_range F j
    simp only [best, cnt]
    by_cases hs : sv (F j) = true
    · by_cases hb : best F j < 0
      · rw [if_pos ⟨hs, .inl hb⟩]; simp [hs]
      · split
        · simp
        · simp; omega
    · rw [if_neg (fun h => hs h.1)]
      simp only [hs, Bool.false_eq_true, if_false, Nat.add_zero]
      exact ih

set_option maxHeartbeats 400000 in
theorem zzBytes13_any (h : Int) (a : Option Addr) (n cap : Nat) (w : World) (hn : n ≤ 9223372036854775807) :
    Calls Try.prog 13 #[.int .i64 h, .slice a n cap] w fun e w' => e = .returned (.bool (decide (n ≤ 1048576))) ∧ w' = w := by
  by_cases hb : n ≤ 1048576
  · go_enter Try.func13, Try.ntmps13
    go_wp2
    go_ret
    exact ⟨ret_bool (by simp [hb]), rfl⟩
  · have h' : (1048576 : Int) < (n : Int) := by omega
    go_enter Try.func13, Try.ntmps13
    go_wp2
    go_ret
    exact ⟨ret_bool (by simp; omega), rfl⟩

set_option maxHeartbeats 1000000 in
theorem agrees_any (h : Int) (a : Option Addr) (b off n cap : Nat) (F : Nat → Int × Int) (w : World) (h1 : h ≤ 9223372036854775807) (hn : n ≤ 9223372036854775807) (hC : Came w a b off n cap F) :
    Calls Try.prog 4 #[.int .i64 h, .slice a n cap] w fun e w' => e = .returned (.bool true) ∧ Below w.heap.size w w' := by
  have hz := zzBytes13_any h a n cap w hn
  by_cases hb : n ≤ 65536
  · rw [decide_eq_true (show n ≤ 1048576 by omega)] at hz
    have hz := hide hz
    have hT := hide (toPushed_any a b off n cap F w (by omega) hC)
    clear hC
    by_cases hh : h < 80
    · have hd : decide (h < 80) = true := decide_eq_true hh
      go_enter Try.func4, Try.ntmps4
      go_wp2_with fail
      refine hz.out.mono ?_
      rintro e w' ⟨rfl, rfl⟩
      go_wp2_with fail
      refine hT.out.mono ?_
      rintro e w1 ⟨a', b', cap', rfl, ha', hp', hb', hnx⟩
      clear hz hT
      have HA := hide ha'
      have HP := hide hp'
      have HB := hide hb'
      clear ha' hp' hb'
      go_wp2_with fail
      refine (evict_room h a' n cap' w1 hh).mono ?_
      rintro e w2 ⟨rfl, rfl⟩
      go_wp2_with fail
      refine (mayTake_any h _).mono ?_
      rintro e w3 ⟨rfl, rfl⟩
      go_wp2_with fail
      go_ret
      exact ⟨rfl, hnx⟩
    · have hd : decide (h < 80) = false := decide_eq_false hh
      have hd2 : (decide (0 ≤ best F n) == decide ((0 : Int) < (cnt F n : Int))) = true := by
        have := best_cnt F n
        by_cases hx : 0 ≤ best F n
        · have := this.1 hx; simp [hx]; omega
        · have h2 : ¬ 0 < cnt F n := fun h => hx (this.2 h)
          simp [hx]; omega
      have hm : max (80 - h) 0 = 0 := by omega
      have HD2 := hide hd2
      clear hd2
      go_enter Try.func4, Try.ntmps4
      go_wp2_with fail
      refine hz.out.mono ?_
      rintro e w' ⟨rfl, rfl⟩
      go_wp2_with fail
      refine hT.out.mono ?_
      rintro e w1 ⟨a', b', cap', rfl, ha', hp', hb', hnx⟩
      clear hz hT
      have HA := hide ha'
      have HP := hide hp'
      have HB := hide hb'
      clear ha' hp' hb'
      go_wp2_with fail
      refine (evict_full h a' b' n cap' F w1 (by omega) (by omega) HA.out HP.out HB.out).mono ?_
      rintro e w2 ⟨rfl, hnx2⟩
      have hs2 := hnx2.size
      go_wp2_with fail
      refine (mayTake_any h _).mono ?_
      rintro e w3 ⟨rfl, rfl⟩
      go_wp2_with fail
      refine (evict_full 80 a' b' n cap' F w3 (by omega) (by omega) HA.out (HP.out.below hnx2 HB.out) (fun h => by have := HB.out h; omega)).mono ?_
      rintro e w4 ⟨rfl, hnx3⟩
      have hs3 := hnx3.size
      go_wp2_with fail
      refine (wanted_any h a' b' n cap' F w4 (by omega) h1 (by omega) HA.out ((HP.out.below hnx2 HB.out).below hnx3 (fun h => by have := HB.out h; omega)) (fun h => by have := HB.out h; omega)).mono ?_
      rintro e w5 ⟨rfl, hnx4⟩
      have hs1 := hnx.size
      go_wp2_with fail
      go_ret
      exact ⟨ret_bool (by have := HD2.out; simpa [hm] using this), ((hnx.trans (hnx2.mono (by omega))).trans (hnx3.mono (by omega))).trans (hnx4.mono (by omega))⟩
  · by_cases hb2 : n ≤ 1048576
    · rw [decide_eq_true hb2] at hz
      have hz := hide hz
      have h' : (65536 : Int) < (n : Int) := by omega
      go_enter Try.func4, Try.ntmps4
      go_wp2_with fail
      refine hz.out.mono ?_
      rintro e w' ⟨rfl, rfl⟩
      go_wp2_with fail
      go_ret
      exact ⟨rfl, Below.refl _ _⟩
    · rw [decide_eq_false hb2] at hz
      have hz := hide hz
      go_enter Try.func4, Try.ntmps4
      go_wp2_with fail
      refine hz.out.mono ?_
      rintro e w' ⟨rfl, rfl⟩
      go_wp2_with fail
      go_ret
      exact ⟨rfl, Below.refl _ _⟩
end Go.Proofs.Qxb6602998a
