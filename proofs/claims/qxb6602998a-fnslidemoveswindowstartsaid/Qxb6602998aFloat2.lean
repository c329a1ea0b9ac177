/- The plain law of the sliding window over the model's doubles. -/
import Derived.Test.Qxb6602998aFloat
namespace Go.Proofs.Qxb6602998a.Fl
open Ieee

theorem V_neg (t : Bool) (n : Nat) (j : Int) : V (!t) n j = - V t n j := by
  unfold V; rw [signed_eq, signed_eq]; cases t <;> simp

/-- A difference of two numbers whose first is the greater, and not too great a one: a positive number. -/
theorem sub_pos {x y : Nat} {s t : Bool} {m n : Nat} {i j : Int} (hx : D.read x = .number s m i) (hy : D.read y = .number t n j) (h : V t n j < V s m i)
    (K : Nat) (hK : K ≤ 2096) (hN : V s m i - V t n j < ((2 ^ K : Nat) : Int)) :
    ∃ d m' i', D.sub x y = some d ∧ D.read d = .number false m' i' ∧ m' ≠ 0 := by
  have lx := read_number_place hx
  have ly := read_number_place hy
  have hb : D.leastPlace ≤ min i j := by omega
  have e1 := V_scale s m i (min i j) hb (by omega)
  have e2 := V_scale (!t) n j (min i j) hb (by omega)
  rw [V_neg] at e2
  have hsum : V s m i - V t n j = (signed s m (i - min i j).toNat + signed (!t) n (j - min i j).toNat) * ((2 ^ (min i j - D.leastPlace).toNat : Nat) : Int) := by
    rw [Int.add_mul, ← e1, ← e2]; omega
  have hc : (0 : Int) < ((2 ^ (min i j - D.leastPlace).toNat : Nat) : Int) := by exact_mod_cast Nat.two_pow_pos _
  unfold Format.sub
  rw [hx, hy]
  simp only [Datum.opposite, Datum.sum, Option.map_some]
  generalize signed s m (i - min i j).toNat + signed (!t) n (j - min i j).toNat = T at hsum ⊢
  have hT : 0 < T := by
    rcases Int.lt_or_le 0 T with h0 | h0
    · exact h0
    · have : T * ((2 ^ (min i j - D.leastPlace).toNat : Nat) : Int) ≤ 0 := Int.mul_nonpos_of_nonpos_of_nonneg h0 (by omega)
      omega
  obtain ⟨M, rfl⟩ : ∃ M : Nat, T = M := ⟨T.toNat, by omega⟩
  have hM : M ≠ 0 := by omega
  rw [if_neg (by omega), show decide ((M : Int) < 0) = false from decide_eq_false (by omega), Int.natAbs_natCast]
  have hlt : M * 2 ^ (min i j - D.leastPlace).toNat < 2 ^ K := by
    rw [hsum] at hN
    exact_mod_cast hN
  obtain ⟨r, er, r1, r2⟩ := nearest_pos false M (min i j) hM hb K hK hlt
  rcases read_word_le false r (by omega) with ⟨m', i', e3, _, _, hm', _⟩ | ⟨_, e4⟩
  · exact ⟨_, m', i', rfl, by show D.read (D.nearest false M (min i j)) = _; rw [er]; exact e3, hm' (by omega)⟩
  · omega

/-- What a product or a quotient of a number (or, for a quotient, an infinity) of sign s with a positive number gives: sign s, and a zero of a zero. -/
def Signed (s : Bool) (zero : Prop) (q : Nat) : Prop := (∃ m i, D.read q = .number s m i ∧ (zero → m = 0)) ∨ (D.read q = .infinity s ∧ ¬ zero)

theorem signed_nearest (s : Bool) (m : Nat) (i : Int) (zero : Prop) (hz : zero → m = 0) : Signed s zero (D.nearest s m i) := by
  obtain ⟨r, er, hr, h0⟩ := nearest_word s m i
  rw [er]
  rcases read_word_le s r hr with ⟨m', i', e, _, hm, _, _⟩ | ⟨e, e2⟩
  · exact .inl ⟨m', i', e, fun h => hm (h0 (hz h))⟩
  · refine .inr ⟨e, fun h => ?_⟩
    have := h0 (hz h)
    rw [this] at e2
    exact absurd e2 (by decide)

theorem mul_pos {b d : Nat} {s : Bool} {m n : Nat} {i j : Int} (hb : D.read b = .number s m i) (hd : D.read d = .number false n j) :
    ∃ p, D.mul b d = some p ∧ Signed s (m = 0) p := by
  unfold Format.mul
  rw [hb, hd]
  simp only [Datum.product, Option.map_some, Bool.xor_false]
  exact ⟨_, rfl, signed_nearest s (m * n) (i + j) (m = 0) (fun h => by rw [h, Nat.zero_mul])⟩

theorem div_pos {p d : Nat} {s : Bool} {zero : Prop} {n : Nat} {j : Int} (hp : Signed s zero p) (hd : D.read d = .number false n j) (hn : n ≠ 0) :
    ∃ q, D.div p d = some q ∧ Signed s zero q := by
  unfold Format.div
  rcases hp with ⟨m, i, hp, hz⟩ | ⟨hp, hz⟩
  · rw [hp, hd]
    simp only [Datum.quotient, if_neg hn, Option.map_some, Bool.xor_false]
    refine ⟨_, rfl, signed_nearest s _ _ zero (fun h => ?_)⟩
    rw [hz h]; simp
  · rw [hp, hd]
    simp only [Datum.quotient, Option.map_some, Bool.xor_false]
    exact ⟨_, rfl, .inr ⟨read_write_inf s, hz⟩⟩

theorem read_zero : D.read 0 = .number false 0 D.leastPlace := by decide +kernel
theorem V_zero : V false 0 D.leastPlace = 0 := by unfold V; rw [signed_eq]; simp

/-- Against nought. -/
theorem order_zero {q : Nat} {s : Bool} {zero : Prop} (hq : Signed s zero q) (hs : s = true → zero) :
    (D.order q 0 == some .gt || D.order q 0 == some .eq) = true ∧ (zero → (D.order q 0 == some .eq) = true) := by
  rcases hq with ⟨m, i, h, hz⟩ | ⟨h, hz⟩
  · rw [order_numbers h read_zero, V_zero]
    have hV : 0 ≤ V s m i := by
      unfold V; rw [signed_eq]
      cases s with
      | false => simp; exact Int.mul_nonneg (by omega) (Int.le_of_lt (Int.pow_pos (by omega)))
      | true => rw [hz (hs rfl)]; simp
    constructor
    · rcases Int.lt_or_eq_of_le hV with h0 | h0
      · rw [cmp_gt.2 h0]; rfl
      · rw [cmp_eq.2 h0.symm]; rfl
    · intro h0
      have : V s m i = 0 := by unfold V; rw [signed_eq, hz h0]; simp
      rw [cmp_eq.2 this]; rfl
  · have hs' : s = false := by
      cases s with
      | false => rfl
      | true => exact absurd (hs rfl) hz
    subst hs'
    refine ⟨?_, fun h0 => absurd h0 hz⟩
    unfold Format.order
    rw [h, read_zero]
    rfl

/-! ### An ordinary time -/

def c20 : Nat := 4626322717216342016
def lo300 : Nat := 18318360957983683996
def hi300 : Nat := 9094988921128908188
def maxD : Nat := 9218868437227405311

def M300 : Nat := 6724873095247260
theorem read_hi300 : D.read hi300 = .number false M300 944 := by decide +kernel
theorem read_lo300 : D.read lo300 = .number true M300 944 := by decide +kernel
theorem read_maxD : ∃ m i, D.read maxD = .number false m i := ⟨9007199254740991, 971, by decide +kernel⟩
theorem read_c20 : ∃ m i, D.read c20 = .number false m i := ⟨5629499534213120, -48, by decide +kernel⟩

def C300 : Int := V false M300 944
theorem V_lo : V true M300 944 = - C300 := by
  have := V_neg false M300 944
  exact this
theorem C300_lt : C300 < ((2 ^ 2071 : Nat) : Int) := by
  unfold C300 V
  rw [signed_eq]
  decide +kernel

def leq (x y : Nat) : Bool := D.order x y == some .lt || D.order x y == some .eq
def geq (x y : Nat) : Bool := D.order x y == some .gt || D.order x y == some .eq

/-- Between two numbers lies a number. -/
theorem between {x lo hi : Nat} {s t : Bool} {m n : Nat} {i j : Int} (hlo : D.read lo = .number s m i) (hhi : D.read hi = .number t n j)
    (h1 : D.order x lo = some .gt ∨ D.order x lo = some .eq) (h2 : D.order x hi = some .lt ∨ D.order x hi = some .eq) :
    ∃ u k p, D.read x = .number u k p ∧ V s m i ≤ V u k p ∧ V u k p ≤ V t n j := by
  cases hx : D.read x with
  | nan a b =>
    have : nanD x = true := by unfold nanD; rw [hx]; rfl
    rw [order_nan_left this] at h1; simp at h1
  | infinity a =>
    exfalso
    unfold Format.order at h1 h2
    rw [hx, hlo] at h1
    rw [hx, hhi] at h2
    cases a <;> simp [Datum.order] at h1 h2
  | number u k p =>
    rw [order_numbers hx hlo] at h1
    rw [order_numbers hx hhi] at h2
    simp only [Option.some.injEq, cmp_gt, cmp_eq, cmp_lt] at h1 h2
    exact ⟨u, k, p, rfl, by omega, by omega⟩

theorem of_geq {x y : Nat} (h : geq x y = true) : D.order x y = some .gt ∨ D.order x y = some .eq := by
  simpa [geq] using h
theorem of_leq {x y : Nat} (h : leq x y = true) : D.order x y = some .lt ∨ D.order x y = some .eq := by
  simpa [leq] using h

theorem ordinary {x : Nat} (h1 : geq x lo300 = true) (h2 : leq x hi300 = true) : ∃ u k p, D.read x = .number u k p ∧ -C300 ≤ V u k p ∧ V u k p ≤ C300 := by
  obtain ⟨u, k, p, h, a, b⟩ := between read_lo300 read_hi300 (of_geq h1) (of_leq h2)
  rw [V_lo] at a
  exact ⟨u, k, p, h, a, b⟩

theorem not_leq {x y : Nat} (h : leq x y = false) (hx : nanD x = false) (hy : nanD y = false) : D.order x y = some .gt := by
  unfold nanD at hx hy
  unfold leq at h
  simp at h
  have : D.order x y ≠ none := by
    unfold Format.order
    cases ex : D.read x <;> cases ey : D.read y <;> rw [ex] at hx <;> rw [ey] at hy <;> simp [Datum.isNaN] at hx hy <;> simp [Datum.order]
  match ho : D.order x y with
  | none => exact absurd ho this
  | some .lt => exact absurd ho h.1
  | some .eq => exact absurd ho h.2
  | some .gt => rfl
theorem not_geq {x y : Nat} (h : geq x y = false) (hx : nanD x = false) (hy : nanD y = false) : D.order x y = some .lt := by
  unfold nanD at hx hy
  unfold geq at h
  simp at h
  have : D.order x y ≠ none := by
    unfold Format.order
    cases ex : D.read x <;> cases ey : D.read y <;> rw [ex] at hx <;> rw [ey] at hy <;> simp [Datum.isNaN] at hx hy <;> simp [Datum.order]
  match ho : D.order x y with
  | none => exact absurd ho this
  | some .gt => exact absurd ho h.1
  | some .eq => exact absurd ho h.2
  | some .lt => rfl

theorem mag_zero {k u : Nat} (h : (k : Int) * 2 ^ u = 0) : k = 0 := by
  rcases Int.mul_eq_zero.1 h with h | h
  · omega
  · have : (0 : Int) < 2 ^ u := Int.pow_pos (by omega)
    omega

/-- THE LAW: inside the window, for an ordinary meter. -/
theorem slide_law {s l b f : Nat} (s1 : geq s lo300 = true) (s2 : leq s hi300 = true) (l1 : geq l lo300 = true) (l2 : leq l hi300 = true)
    (b1 : geq b 0 = true) (b2 : leq b maxD = true) (hf : nanD f = false) (f1 : leq f s = false) (f2 : geq f l = false) :
    ∃ d1 p d2 q, D.sub l f = some d1 ∧ D.mul b d1 = some p ∧ D.sub l s = some d2 ∧ D.div p d2 = some q ∧ geq q 0 = true ∧ ((D.order b 0 == some .eq) = true → (D.order q 0 == some .eq) = true) := by
  obtain ⟨us, ks, ps, rs, as, bs⟩ := ordinary s1 s2
  obtain ⟨ul, kl, pl, rl, al, bl⟩ := ordinary l1 l2
  have ns : nanD s = false := by unfold nanD; rw [rs]; rfl
  have nl : nanD l = false := by unfold nanD; rw [rl]; rfl
  have o1 := not_leq f1 hf ns
  have o2 := not_geq f2 hf nl
  obtain ⟨uf, kf, pf, rf, _, _⟩ := between rs rl (.inl o1) (.inl o2)
  rw [order_numbers rf rs, Option.some.injEq, cmp_gt] at o1
  rw [order_numbers rf rl, Option.some.injEq, cmp_lt] at o2
  obtain ⟨mm, mi, hm⟩ := read_maxD
  obtain ⟨ub, kb, pb, rb, ab, _⟩ := between read_zero hm (of_geq b1) (of_leq b2)
  rw [V_zero] at ab
  have hC := C300_lt
  obtain ⟨K, hK⟩ : ∃ K, K = 2071 := ⟨_, rfl⟩
  rw [← hK] at hC
  have h2 : ((2 ^ (K + 1) : Nat) : Int) = ((2 ^ K : Nat) : Int) + ((2 ^ K : Nat) : Int) := by
    rw [Nat.pow_succ, Nat.mul_two, Int.natCast_add]
  obtain ⟨d1, m1, i1, e1, r1, z1⟩ := sub_pos rl rf o2 (K + 1) (by omega) (by rw [h2]; omega)
  obtain ⟨d2, m2, i2, e2, r2, z2⟩ := sub_pos rl rs (by omega) (K + 1) (by omega) (by rw [h2]; omega)
  obtain ⟨p, ep, hp⟩ := mul_pos rb r1
  obtain ⟨q, eq, hq⟩ := div_pos hp r2 z2
  have hsz : ub = true → kb = 0 := by
    intro h
    subst h
    have : V true kb pb ≤ 0 := by
      unfold V; rw [signed_eq]; simp
      exact Int.mul_nonneg (by omega) (Int.le_of_lt (Int.pow_pos (by omega)))
    have h0 : V true kb pb = 0 := by omega
    unfold V at h0; rw [signed_eq] at h0; simp at h0
    exact mag_zero h0
  have hz := order_zero hq hsz
  refine ⟨d1, p, d2, q, e1, ep, e2, eq, hz.1, fun h => hz.2 ?_⟩
  rw [order_numbers rb read_zero, V_zero] at h
  have h0 : V ub kb pb = 0 := by
    have := of_decide_eq_true (p := some (compare (V ub kb pb) 0) = some .eq) (by simpa using h)
    exact cmp_eq.1 (by simpa using this)
  unfold V at h0; rw [signed_eq] at h0
  cases ub <;> simp at h0 <;> exact mag_zero h0

end Go.Proofs.Qxb6602998a.Fl
