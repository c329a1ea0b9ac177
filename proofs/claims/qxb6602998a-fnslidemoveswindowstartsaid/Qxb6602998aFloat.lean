/- The plain mathematics of the model's doubles, as far as the sliding window wants it: no Go in sight. -/
import Derived.Laws.FloatArith
namespace Go.Proofs.Qxb6602998a.Fl
open Ieee

abbrev D : Format := Ieee.double
def nanD (x : Nat) : Bool := (D.read x).isNaN

theorem order_nan_left {x y : Nat} (h : nanD x = true) : D.order x y = none := by
  unfold nanD at h
  unfold Format.order
  cases hx : D.read x with
  | nan s t => cases D.read y <;> rfl
  | number s m i => rw [hx] at h; simp [Datum.isNaN] at h
  | infinity s => rw [hx] at h; simp [Datum.isNaN] at h

theorem order_nan_right {x y : Nat} (h : nanD y = true) : D.order x y = none := by
  unfold nanD at h
  unfold Format.order
  cases hy : D.read y with
  | nan s t => cases D.read x <;> rfl
  | number s m i => rw [hy] at h; simp [Datum.isNaN] at h
  | infinity s => rw [hy] at h; simp [Datum.isNaN] at h

theorem order_self {x : Nat} (h : nanD x = false) : D.order x x = some .eq := by
  unfold nanD at h
  unfold Format.order
  cases hx : D.read x with
  | nan s t => rw [hx] at h; simp [Datum.isNaN] at h
  | number s m i => simp [Datum.order]
  | infinity s => simp [Datum.order]

/-- x == y || (x != x && y != y) -/
theorem same_self (x : Nat) : (D.order x x == some .eq || (D.order x x != some .eq && D.order x x != some .eq)) = true := by
  cases h : (D.order x x == some .eq) <;> simp [bne, h]

/-! ### What is written is read -/

theorem read_word (s : Bool) (r : Nat) (h : r < D.signWeight) : D.read (D.word s r) =
    if r < D.binade then .number s r D.leastPlace
    else if r < D.infRung then .number s (D.binade + r % D.binade) (D.leastPlace + (r / D.binade - 1 : Nat))
    else if r = D.infRung then .infinity s
    else .nan s (r - D.infRung) := by
  have hw : D.signWeight = 9223372036854775808 := by decide
  have e1 : (D.word s r / D.signWeight % 2 == 1) = s := by
    unfold Format.word
    rw [hw] at h ⊢
    cases s
    · simp; omega
    · simp; omega
  have e2 : D.word s r % D.signWeight = r := by
    unfold Format.word
    rw [hw] at h ⊢
    cases s
    · simp; omega
    · simp; omega
  unfold Format.read
  simp only [e1, e2]

/-- A rung up to infinity's: a number of that sign, or an infinity of that sign. -/
theorem read_word_le (s : Bool) (r : Nat) (h : r ≤ D.infRung) :
    (∃ m i, D.read (D.word s r) = .number s m i ∧ D.leastPlace ≤ i ∧ (r = 0 → m = 0) ∧ (r ≠ 0 → m ≠ 0) ∧ r < D.infRung) ∨ (D.read (D.word s r) = .infinity s ∧ r = D.infRung) := by
  have hb : D.binade = 4503599627370496 := by decide
  rw [read_word s r (Nat.lt_of_le_of_lt h D.infRung_lt)]
  have hi : D.infRung = 9218868437227405312 := by decide
  by_cases h1 : r < D.binade
  · left
    rw [if_pos h1]
    exact ⟨r, _, rfl, Int.le_refl _, id, id, by rw [hi]; rw [hb] at h1; omega⟩
  · rw [if_neg h1]
    by_cases h2 : r < D.infRung
    · left
      rw [if_pos h2]
      exact ⟨_, _, rfl, by omega, fun h0 => by rw [hb] at h1; omega, fun _ => by rw [hb]; omega, h2⟩
    · right
      rw [if_neg h2, if_pos (by omega)]
      exact ⟨rfl, by omega⟩

/-- Every word is a sign and a rung. -/
theorem read_number_place {x : Nat} {s : Bool} {m : Nat} {i : Int} (h : D.read x = .number s m i) : D.leastPlace ≤ i := by
  unfold Format.read at h
  simp only at h
  split at h
  · cases h; exact Int.le_refl _
  · split at h
    · cases h; omega
    · split at h <;> cases h

/-! ### Rounding -/

theorem nearest_word (s : Bool) (m : Nat) (i : Int) : ∃ r, D.nearest s m i = D.word s r ∧ r ≤ D.infRung ∧ (m = 0 → r = 0) := by
  unfold Format.nearest
  by_cases h : m = 0
  · rw [if_pos h]; exact ⟨0, rfl, Nat.zero_le _, fun _ => rfl⟩
  · rw [if_neg h]; exact ⟨_, rfl, Nat.min_le_right _ _, fun h0 => absurd h0 h⟩

theorem nan_write_number (s : Bool) (m : Nat) (i : Int) : nanD (D.write (.number s m i)) = false := by
  obtain ⟨r, e, hr, _⟩ := nearest_word s m i
  show (D.read (D.nearest s m i)).isNaN = false
  rw [e]
  rcases read_word_le s r hr with ⟨m', i', e2, _⟩ | ⟨e2, _⟩ <;> rw [e2] <;> rfl
theorem read_write_inf (s : Bool) : D.read (D.write (.infinity s)) = .infinity s := by
  cases s <;> decide +kernel
theorem nan_write_inf (s : Bool) : nanD (D.write (.infinity s)) = false := by
  unfold nanD; rw [read_write_inf]; rfl

/-- A difference that is given is no NaN. -/
theorem sub_not_nan {x y r : Nat} (h : D.sub x y = some r) : nanD r = false := by
  unfold Format.sub at h
  cases hx : D.read x <;> cases hy : D.read y <;> rw [hx, hy] at h <;> simp [Datum.sum, Datum.opposite] at h
  · subst h; exact nan_write_number _ _ _
  · subst h; exact nan_write_inf _
  · subst h; exact nan_write_inf _
  · obtain ⟨_, rfl⟩ := h; exact nan_write_inf _

/-- A number is taken off whatever is no NaN. -/
theorem sub_number {x y : Nat} {s : Bool} {m : Nat} {i : Int} (hx : nanD x = false) (hy : D.read y = .number s m i) : ∃ r, D.sub x y = some r := by
  unfold nanD at hx
  unfold Format.sub
  rw [hy]
  cases h : D.read x with
  | nan _ _ => rw [h] at hx; simp [Datum.isNaN] at hx
  | number _ _ _ => exact ⟨_, rfl⟩
  | infinity _ => exact ⟨_, rfl⟩
theorem sub_nan {x y : Nat} (hx : nanD x = true) : D.sub x y = none := by
  unfold nanD at hx
  unfold Format.sub
  cases h : D.read x with
  | nan _ _ => cases D.read y <;> rfl
  | number _ _ _ => rw [h] at hx; simp [Datum.isNaN] at hx
  | infinity _ => rw [h] at hx; simp [Datum.isNaN] at hx

/-! ### Numbers, scaled at the least place -/

def V (s : Bool) (m : Nat) (i : Int) : Int := signed s m (i - D.leastPlace).toNat

theorem signed_eq (s : Bool) (m u : Nat) : signed s m u = (if s then -1 else 1) * ((m : Int) * (2 ^ u : Nat)) := by
  unfold signed
  rw [Nat.shiftLeft_eq]
  cases s <;> simp

theorem V_scale (s : Bool) (m : Nat) (i base : Int) (h1 : D.leastPlace ≤ base) (h2 : base ≤ i) :
    V s m i = signed s m (i - base).toNat * ((2 ^ (base - D.leastPlace).toNat : Nat) : Int) := by
  unfold V
  rw [signed_eq, signed_eq, show (i - D.leastPlace).toNat = (i - base).toNat + (base - D.leastPlace).toNat from by omega, Nat.pow_add]
  simp only [Int.natCast_mul]
  cases s <;> simp [Int.mul_assoc, Int.neg_mul]

theorem order_numbers {x y : Nat} {s t : Bool} {m n : Nat} {i j : Int} (hx : D.read x = .number s m i) (hy : D.read y = .number t n j) :
    D.order x y = some (compare (V s m i) (V t n j)) := by
  have lx := read_number_place hx
  have ly := read_number_place hy
  unfold Format.order
  rw [hx, hy]
  simp only [Datum.order]
  have hb : D.leastPlace ≤ min i j := by omega
  rw [V_scale s m i (min i j) hb (by omega), V_scale t n j (min i j) hb (by omega)]
  have hc : (0 : Int) < ((2 ^ (min i j - D.leastPlace).toNat : Nat) : Int) := by exact_mod_cast Nat.two_pow_pos _
  generalize ((2 ^ (min i j - D.leastPlace).toNat : Nat) : Int) = c at hc
  generalize signed s m (i - min i j).toNat = a
  generalize signed t n (j - min i j).toNat = b
  congr 1
  simp only [compare, compareOfLessAndEq]
  have e1 : (a * c < b * c) = (a < b) := propext ⟨fun h => Int.lt_of_mul_lt_mul_right h (by omega), fun h => Int.mul_lt_mul_of_pos_right h hc⟩
  have e2 : (a * c = b * c) = (a = b) := propext ⟨fun h => Int.eq_of_mul_eq_mul_right (by omega) h, fun h => by rw [h]⟩
  simp only [e1, e2]

theorem cmp_lt {a b : Int} : compare a b = .lt ↔ a < b := by
  simp only [compare, compareOfLessAndEq]; split
  · simp [*]
  · split <;> simp [*]
theorem cmp_eq {a b : Int} : compare a b = .eq ↔ a = b := by
  simp only [compare, compareOfLessAndEq]; split
  · simp; omega
  · split <;> simp [*]
theorem cmp_gt {a b : Int} : compare a b = .gt ↔ b < a := by
  simp only [compare, compareOfLessAndEq]; split
  · simp; omega
  · split
    · simp; omega
    · simp; omega

/-! ### Rounding a number that is a multiple of the least unit, and not too great -/

theorem cut_zero (s : Bool) (n : Nat) : Toward.even.cut s n 0 = n := by
  simp [Toward.cut, Nat.mod_one]

theorem cut_le (s : Bool) (n drop : Nat) : Toward.even.cut s n drop ≤ n / (1 <<< min drop (n.log2 + 2)) + 1 := by
  unfold Toward.cut
  simp only
  generalize (decide (1 <<< min drop (n.log2 + 2) < 2 * (n % 1 <<< min drop (n.log2 + 2))) || (1 <<< min drop (n.log2 + 2) == 2 * (n % 1 <<< min drop (n.log2 + 2)) && n / 1 <<< min drop (n.log2 + 2) % 2 == 1)) = b
  have : b.toNat ≤ 1 := Bool.toNat_le b
  omega

theorem nearest_pos (s : Bool) (m : Nat) (i : Int) (hm : m ≠ 0) (hi : D.leastPlace ≤ i) (K : Nat) (hK : K ≤ 2096) (hN : m * 2 ^ (i - D.leastPlace).toNat < 2 ^ K) :
    ∃ r, D.nearest s m i = D.word s r ∧ 1 ≤ r ∧ r < D.infRung := by
  have hB : 0 < D.binade := Nat.two_pow_pos _
  have h53 : 2 ^ 53 = 2 * D.binade := by decide
  have hinf : D.infRung = 2047 * D.binade := by decide
  have hfb : (D.fractionBits : Int) = 52 := by decide
  have hlo : 2 ^ m.log2 ≤ m := Nat.log2_self_le hm
  have hhi : m < 2 ^ (m.log2 + 1) := Nat.lt_log2_self
  have hlog : m.log2 + (i - D.leastPlace).toNat < 2096 := by
    have h0 : 2 ^ (m.log2 + (i - D.leastPlace).toNat) < 2 ^ K := by
      rw [Nat.pow_add]
      exact Nat.lt_of_le_of_lt (Nat.mul_le_mul_right _ hlo) hN
    have := (Nat.pow_lt_pow_iff_right (a := 2) (by omega)).1 h0
    omega
  unfold Format.nearest
  rw [if_neg hm]
  simp only [hfb]
  by_cases hc : i + m.log2 - 52 ≤ D.leastPlace
  · have e : max (i + (m.log2 : Int) - 52) D.leastPlace = D.leastPlace := by omega
    rw [e]
    have e1 : (D.leastPlace - i).toNat = 0 := by omega
    have e2 : (D.leastPlace - D.leastPlace).toNat = 0 := by omega
    rw [e1, e2, cut_zero, Nat.shiftLeft_eq]
    have h1 : 1 ≤ m * 2 ^ (i - D.leastPlace).toNat := Nat.mul_pos (by omega) (Nat.two_pow_pos _)
    have h2 : m * 2 ^ (i - D.leastPlace).toNat < 2 ^ 53 := by
      have h3 : m * 2 ^ (i - D.leastPlace).toNat < 2 ^ (m.log2 + 1) * 2 ^ (i - D.leastPlace).toNat := Nat.mul_lt_mul_of_pos_right hhi (Nat.two_pow_pos _)
      rw [← Nat.pow_add] at h3
      exact Nat.lt_of_lt_of_le h3 (Nat.pow_le_pow_right (by omega) (by omega))
    rw [h53] at h2
    rw [hinf]
    generalize m * 2 ^ (i - D.leastPlace).toNat = z at h1 h2 ⊢
    generalize D.binade = B at hB h2 ⊢
    rw [Nat.zero_mul]
    exact ⟨_, rfl, by omega, by omega⟩
  · have e : max (i + (m.log2 : Int) - 52) D.leastPlace = i + (m.log2 : Int) - 52 := by omega
    rw [e]
    have e3 : 1 ≤ (i + (m.log2 : Int) - 52 - D.leastPlace).toNat := by omega
    have e4 : (i + (m.log2 : Int) - 52 - D.leastPlace).toNat ≤ 2043 := by omega
    have hk : Toward.even.cut s (m <<< (i - (i + (m.log2 : Int) - 52)).toNat) (i + (m.log2 : Int) - 52 - i).toNat ≤ 2 ^ 53 := by
      by_cases h52 : m.log2 ≤ 52
      · have e5 : (i + (m.log2 : Int) - 52 - i).toNat = 0 := by omega
        have e6 : (i - (i + (m.log2 : Int) - 52)).toNat = 52 - m.log2 := by omega
        rw [e5, e6, cut_zero, Nat.shiftLeft_eq]
        have h3 : m * 2 ^ (52 - m.log2) < 2 ^ (m.log2 + 1) * 2 ^ (52 - m.log2) := Nat.mul_lt_mul_of_pos_right hhi (Nat.two_pow_pos _)
        rw [← Nat.pow_add, show m.log2 + 1 + (52 - m.log2) = 53 from by omega] at h3
        exact Nat.le_of_lt h3
      · have e5 : (i + (m.log2 : Int) - 52 - i).toNat = m.log2 - 52 := by omega
        have e6 : (i - (i + (m.log2 : Int) - 52)).toNat = 0 := by omega
        rw [e5, e6]
        refine Nat.le_trans (cut_le s _ _) ?_
        rw [Nat.shiftLeft_zero, show min (m.log2 - 52) (m.log2 + 2) = m.log2 - 52 from by omega, Nat.shiftLeft_eq, Nat.one_mul]
        have h4 : m / 2 ^ (m.log2 - 52) < 2 ^ 53 := by
          rw [Nat.div_lt_iff_lt_mul (Nat.two_pow_pos _), ← Nat.pow_add, show 53 + (m.log2 - 52) = m.log2 + 1 from by omega]
          exact hhi
        omega
    generalize Toward.even.cut s (m <<< (i - (i + (m.log2 : Int) - 52)).toNat) (i + (m.log2 : Int) - 52 - i).toNat = k at hk ⊢
    generalize (i + (m.log2 : Int) - 52 - D.leastPlace).toNat = q at e3 e4 ⊢
    rw [h53] at hk
    rw [hinf]
    have q1 : q * D.binade ≤ 2043 * D.binade := Nat.mul_le_mul_right _ e4
    have q2 : 1 * D.binade ≤ q * D.binade := Nat.mul_le_mul_right _ e3
    generalize q * D.binade = z at q1 q2 ⊢
    generalize D.binade = B at hB hk q1 q2 ⊢
    exact ⟨_, rfl, by omega, by omega⟩

end Go.Proofs.Qxb6602998a.Fl
