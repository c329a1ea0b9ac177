/- The walks of seat b6602994a, the decimal scanner. -/
import Derived.Test.Qxb6602994aRows
import Derived.Test.Qxb6602994aPlain
import Derived.WalkKit
import Derived.WalkSpells
import Derived.WalkLawsBesides
import Derived.Deep.DeepCutAuto
namespace Go.Proofs.Qxb6602994a
open Go.RowKit Plain
set_option linter.unusedVariables false

def bs (s : ByteArray) : List UInt8 := s.data.toList

theorem bs_length (s : ByteArray) : (bs s).length = s.size := rfl
theorem bs_drop (s : ByteArray) (k : Nat) (h : k < s.size) : (bs s).drop k = s[k] :: (bs s).drop (k + 1) := by
  unfold bs
  rw [List.drop_eq_getElem_cons (by simpa using h)]; rfl
theorem bs_drop_end (s : ByteArray) (k : Nat) (h : s.size ≤ k) : (bs s).drop k = [] :=
  List.drop_of_length_le (by rw [bs_length]; exact h)

theorem hide {p : Prop} (h : p) : Hid p := h
theorem ret_bool {a b : Bool} (h : a = b) : Ending.returned (.bool a) = .returned (.bool b) := by rw [h]
theorem ret_int {k : IntKind} {a b : Int} (h : a = b) : Ending.returned (.int k a) = .returned (.int k b) := by rw [h]

set_option maxHeartbeats 400000 in
theorem isDigit_any (n : Int) (w : World) :
    Calls Try.prog 39 #[.int .u8 n] w fun e w' => e = .returned (.bool (decide (48 ≤ n) && decide (n ≤ 57))) ∧ w' = w := by
  by_cases h : 48 ≤ n
  · by_cases h2 : n ≤ 57
    · go_enter Try.func39, Try.ntmps39
      go_wp2
      go_ret
      exact ⟨ret_bool (by simp [h, h2]), rfl⟩
    · go_enter Try.func39, Try.ntmps39
      go_wp2
      go_ret
      exact ⟨ret_bool (by simp [h2]), rfl⟩
  · go_enter Try.func39, Try.ntmps39
    go_wp2
    go_ret
    exact ⟨ret_bool (by simp; omega), rfl⟩

theorem isDigit_of (c : UInt8) (b : Bool) (h : dg c = b) (w : World) :
    Calls Try.prog 39 #[.int .u8 (c.toNat : Int)] w fun e w' => e = .returned (.bool b) ∧ w' = w := by
  refine (isDigit_any _ w).mono fun e w' he => ?_
  rw [← h]; exact he

theorem under_yes {s : ByteArray} {k : Nat} (h : under ((bs s).drop k) = true) : ∃ (h1 : k < s.size) (h2 : k + 1 < s.size), isc 95 s[k] = true ∧ dg s[k + 1] = true := by
  by_cases h1 : k < s.size
  · rw [bs_drop s k h1] at h
    by_cases h2 : k + 1 < s.size
    · rw [bs_drop s (k + 1) h2] at h
      simp [under] at h
      exact ⟨h1, h2, h.1, h.2⟩
    · rw [bs_drop_end s (k + 1) (by omega)] at h
      simp [under] at h
  · rw [bs_drop_end s k (by omega)] at h
    simp [under] at h
theorem under_mk {s : ByteArray} {k : Nat} (h2 : k + 1 < s.size) : under ((bs s).drop k) = (isc 95 s[k] && dg s[k + 1]) := by
  rw [bs_drop s k (by omega), bs_drop s (k + 1) h2]; rfl

theorem under_no {s : ByteArray} {k : Nat} (h2 : ¬ k + 1 < s.size) : under ((bs s).drop k) = false := by
  rw [Bool.eq_false_iff]; intro h; obtain ⟨h1, h3, _⟩ := under_yes h; exact h2 h3

theorem dig_one {sep : Bool} {s : ByteArray} {k N : Nat} (h : k < s.size) (hd : dg s[k] = true) (hu : (sep && under ((bs s).drop (k + 1))) = false)
    (HS : Hid (k + digL sep ((bs s).drop k) = N)) : Hid (k + 1 + digL sep ((bs s).drop (k + 1)) = N) := by
  have := HS.out
  rw [bs_drop s k h, digL_cons, hd, hu] at this
  simp at this
  exact hide (by omega)
theorem dig_two {sep : Bool} {s : ByteArray} {k N : Nat} (h : k < s.size) (hd : dg s[k] = true) (hu : (sep && under ((bs s).drop (k + 1))) = true)
    (HS : Hid (k + digL sep ((bs s).drop k) = N)) : Hid (k + 2 + digL sep ((bs s).drop (k + 2)) = N) := by
  have := HS.out
  rw [bs_drop s k h, digL_cons, hd, hu] at this
  simp only [if_true, List.drop_drop] at this
  exact hide (by rw [show k + 1 + 1 = k + 2 from rfl] at this; omega)
theorem dig_not {sep : Bool} {s : ByteArray} {k N : Nat} (h : k < s.size) (hd : dg s[k] = false) (HS : Hid (k + digL sep ((bs s).drop k) = N)) : k = N := by
  have := HS.out
  rw [bs_drop s k h, digL_cons, hd] at this
  simpa using this
theorem dig_end {sep : Bool} {s : ByteArray} {k N : Nat} (h : s.size ≤ k) (HS : Hid (k + digL sep ((bs s).drop k) = N)) : k = N := by
  have := HS.out
  rw [bs_drop_end s k h] at this
  simpa [digL] using this

set_option maxHeartbeats 1000000 in
theorem scanDigits_any (s : ByteArray) (i : Nat) (sep : Bool) (w : World) (hs : s.size ≤ 1048576) (hi : i ≤ 9223372036854775807) :
    Calls Try.prog 38 #[.string s, .int .i64 i, .func (.func 39) #[] #[], .bool sep] w fun e w' => e = .returned (.int .i64 (i + digL sep ((bs s).drop i) : Nat)) ∧ w' = w := by
  generalize hN : i + digL sep ((bs s).drop i) = N
  have HN := hide hN
  clear hN
  go_enter Try.func38, Try.ntmps38
  go_wp2
  go_loop [1] (fun v => ∃ k : Nat, (k ≤ s.size ∨ k = i) ∧ v = .int .i64 k ∧ Hid (k + digL sep ((bs s).drop k) = N)) (fun v => s.size - (intOf v).toNat)
  case atStart => exact ⟨i, .inr rfl, rfl, HN⟩
  case round =>
    clear HN
    obtain ⟨k, hk, rfl, HS⟩ := hrel
    by_cases hlt : k < s.size
    · clear hk
      by_cases hd : dg s[k] = true
      · go_upto_region 2 with (go_at_call 39; refine (isDigit_of s[k] true hd _).mono ?_; rintro e w' ⟨rfl, rfl⟩)
        cases sep
        · go_wp2
          go_round
          case rel => exact ⟨k + 1, by omega, by go_num, dig_one hlt hd (by simp) HS⟩
          case measure => simp [intOf]; omega
        · by_cases h2 : k + 1 + 1 < s.size
          · by_cases h95 : isc 95 s[k + 1] = true
            · have h95' : ((s[k + 1].toNat : Int) == 95) = true := h95
              by_cases hd2 : dg s[k + 1 + 1] = true
              · go_wp2_with (go_at_call 39; refine (isDigit_of s[k + 1 + 1] true hd2 _).mono ?_; rintro e w' ⟨rfl, rfl⟩)
                go_round
                case rel => exact ⟨k + 2, by omega, by go_num, dig_two hlt hd (by rw [under_mk h2]; simp [h95, hd2]) HS⟩
                case measure => simp [intOf]; omega
              · have hd2' : dg s[k + 1 + 1] = false := by simpa using hd2
                clear hd2
                go_wp2_with (go_at_call 39; refine (isDigit_of s[k + 1 + 1] false hd2' _).mono ?_; rintro e w' ⟨rfl, rfl⟩)
                go_round
                case rel => exact ⟨k + 1, by omega, by go_num, dig_one hlt hd (by rw [under_mk h2]; simp [hd2']) HS⟩
                case measure => simp [intOf]; omega
            · have h95' : ((s[k + 1].toNat : Int) == 95) = false := by simpa [isc] using h95
              go_wp2
              go_round
              case rel => exact ⟨k + 1, by omega, by go_num, dig_one hlt hd (by rw [under_mk h2]; simp [h95]) HS⟩
              case measure => simp [intOf]; omega
          · have HU := hide (under_no h2)
            go_wp2
            go_round
            case rel => exact ⟨k + 1, by omega, by go_num, dig_one hlt hd (by rw [HU.out]; rfl) HS⟩
            case measure => simp [intOf]; omega
      · have hd' : dg s[k] = false := by simpa using hd
        clear hd
        go_wp2_with (go_at_call 39; refine (isDigit_of s[k] false hd' _).mono ?_; rintro e w' ⟨rfl, rfl⟩)
        go_ret
        exact ⟨ret_int (by rw [dig_not hlt hd' HS]), rfl⟩
    · have hge : (s.size : Int) ≤ (k : Int) := by omega
      clear hk
      go_wp2
      go_ret
      exact ⟨ret_int (by rw [dig_end (by omega) HS]), rfl⟩
end Go.Proofs.Qxb6602994a
