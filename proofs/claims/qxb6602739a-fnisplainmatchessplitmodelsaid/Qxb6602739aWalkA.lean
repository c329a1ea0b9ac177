/- The walks of seat b6602739a: each Go function on the road computes a plain function. -/
import Derived.Test.Qxb6602739aRows
import Derived.Test.Qxb6602739aPlain
import Derived.WalkKit
import Derived.WalkSpells
import Derived.WalkLawsBesides
namespace Go.Proofs.Qxb6602739a
open Go.RowKit Plain
set_option linter.unusedVariables false

def bs (s : ByteArray) : List UInt8 := s.data.toList

theorem bs_length (s : ByteArray) : (bs s).length = s.size := rfl
theorem bs_drop (s : ByteArray) (k : Nat) (h : k < s.size) : (bs s).drop k = s[k] :: (bs s).drop (k + 1) := by
  unfold bs
  rw [List.drop_eq_getElem_cons (by simpa using h)]; rfl
theorem bs_drop_end (s : ByteArray) (k : Nat) (h : s.size ≤ k) : (bs s).drop k = [] :=
  List.drop_of_length_le (by rw [bs_length]; exact h)

theorem hide {p : Prop} (h : p) : Hid p := h
theorem ret_bool {a b : Bool} (h : a = b) : Ending.returned (.bool a) = .returned (.bool b) := by rw [h]

set_option maxHeartbeats 400000 in
theorem zzBytes_any (s : ByteArray) (w : World) (hs : s.size ≤ maxLen) :
    Calls Try.prog 6 #[.string s] w fun e w' => e = .returned (.bool (decide (s.size ≤ 1048576))) ∧ w' = w := by
  unfold maxLen at hs
  by_cases h : s.size ≤ 1048576
  · go_enter Try.func6, Try.ntmps6
    go_wp2
    go_ret
    exact ⟨ret_bool (by simp [h]), rfl⟩
  · have h' : (1048576 : Int) < (s.size : Int) := by omega
    go_enter Try.func6, Try.ntmps6
    go_wp2
    go_ret
    exact ⟨ret_bool (by simp; omega), rfl⟩

set_option maxHeartbeats 400000 in
theorem isDigit_any (n : Int) (w : World) :
    Calls Try.prog 11 #[.int .u8 n] w fun e w' => e = .returned (.bool (decide (48 ≤ n) && decide (n ≤ 57))) ∧ w' = w := by
  by_cases h : 48 ≤ n
  · by_cases h2 : n ≤ 57
    · go_enter Try.func11, Try.ntmps11
      go_wp2
      go_ret
      exact ⟨ret_bool (by simp [h, h2]), rfl⟩
    · go_enter Try.func11, Try.ntmps11
      go_wp2
      go_ret
      exact ⟨ret_bool (by simp [h2]), rfl⟩
  · go_enter Try.func11, Try.ntmps11
    go_wp2
    go_ret
    exact ⟨ret_bool (by simp; omega), rfl⟩

theorem isDigit_of (c : UInt8) (b : Bool) (h : dg c = b) (w : World) :
    Calls Try.prog 11 #[.int .u8 (c.toNat : Int)] w fun e w' => e = .returned (.bool b) ∧ w' = w := by
  refine (isDigit_any _ w).mono fun e w' he => ?_
  rw [← h]; exact he

set_option maxHeartbeats 400000 in
theorem allDigits_any (s : ByteArray) (w : World) (hs : s.size ≤ maxLen) :
    Calls Try.prog 14 #[.string s] w fun e w' => e = .returned (.bool ((bs s).all dg)) ∧ w' = w := by
  unfold maxLen at hs
  go_enter Try.func14, Try.ntmps14
  go_wp2
  go_loop [3] (fun i => ∃ k : Nat, k ≤ s.size ∧ i = .int .i64 k ∧ Hid (((bs s).drop k).all dg = (bs s).all dg)) (fun i => s.size - (intOf i).toNat)
  case atStart => exact ⟨0, Nat.zero_le _, rfl, hide (by simp)⟩
  case round =>
    obtain ⟨k, hk, rfl, HD⟩ := hrel
    by_cases hlt : k < s.size
    · by_cases hd : dg s[k] = true
      · go_wp2_with (go_at_call 11; refine (isDigit_of s[k] true hd _).mono ?_; rintro e w' ⟨rfl, rfl⟩)
        go_round
        case rel => exact ⟨k + 1, by omega, by go_num, hide (by have := HD.out; rw [bs_drop s k hlt] at this; simpa [hd] using this)⟩
        case measure => simp [intOf]; omega
      · have hd' : dg s[k] = false := by simpa using hd
        clear hd
        go_wp2_with (go_at_call 11; refine (isDigit_of s[k] false hd' _).mono ?_; rintro e w' ⟨rfl, rfl⟩)
        go_ret
        exact ⟨ret_bool (by have := HD.out; rw [bs_drop s k hlt] at this; simpa [hd'] using this), rfl⟩
    · go_wp2
      go_ret
      exact ⟨ret_bool (by have := HD.out; rw [bs_drop_end s k (by omega)] at this; simpa using this), rfl⟩

end Go.Proofs.Qxb6602739a
