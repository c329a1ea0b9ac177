/- The plain mathematics of the hash table of seat b6602994a: masks, insertion, probing, runs. -/
import Derived.WalkKit
namespace Go.Proofs.Qxb6602994a.Tab

/-! ### Masks -/

theorem and_mask_nat (x : Int) (e : Nat) (he : e ≤ 62) :
    (BitVec.ofInt 64 x &&& BitVec.ofInt 64 (((2 ^ e : Nat) : Int) - 1)).toNat = (x % ((2 ^ e : Nat) : Int)).toNat := by
  have hp : 0 < 2 ^ e := Nat.two_pow_pos e
  have hle : 2 ^ e ≤ 2 ^ 62 := Nat.pow_le_pow_right (by omega) he
  rw [BitVec.toNat_and, BitVec.toNat_ofInt, BitVec.toNat_ofInt]
  have e1 : ((((2 ^ e : Nat) : Int) - 1) % ((2 ^ 64 : Nat) : Int)).toNat = 2 ^ e - 1 := by
    rw [Int.emod_eq_of_lt (by omega) (by omega)]; omega
  rw [e1, Nat.and_two_pow_sub_one_eq_mod]
  have hd : ((2 ^ e : Nat) : Int) ∣ ((2 ^ 64 : Nat) : Int) := by
    exact_mod_cast Nat.pow_dvd_pow 2 (by omega : e ≤ 64)
  have h0 : 0 ≤ x % ((2 ^ 64 : Nat) : Int) := Int.emod_nonneg _ (by omega)
  have h1 : ((x % ((2 ^ 64 : Nat) : Int)).toNat % 2 ^ e : Nat) = ((x % ((2 ^ 64 : Nat) : Int)) % ((2 ^ e : Nat) : Int)).toNat := by
    have : (((x % ((2 ^ 64 : Nat) : Int)).toNat % 2 ^ e : Nat) : Int) = (x % ((2 ^ 64 : Nat) : Int)) % ((2 ^ e : Nat) : Int) := by
      rw [Int.natCast_emod, Int.toNat_of_nonneg h0]
    omega
  rw [h1, Int.emod_emod_of_dvd _ hd]

theorem and_mask_u64 (x : Int) (e : Nat) (he : e ≤ 62) : bits .and .u64 x (((2 ^ e : Nat) : Int) - 1) = x % ((2 ^ e : Nat) : Int) := by
  have hp : 0 < 2 ^ e := Nat.two_pow_pos e
  have hle : 2 ^ e ≤ 2 ^ 62 := Nat.pow_le_pow_right (by omega) he
  have h1 := and_mask_nat x e he
  have h2 : 0 ≤ x % ((2 ^ e : Nat) : Int) := Int.emod_nonneg _ (by omega)
  have h3 : x % ((2 ^ e : Nat) : Int) < ((2 ^ e : Nat) : Int) := Int.emod_lt_of_pos _ (by omega)
  show IntKind.u64.wrap ((BitVec.ofInt 64 x &&& BitVec.ofInt 64 (((2 ^ e : Nat) : Int) - 1)).toNat : Int) = _
  rw [h1, IntKind.wrap_u64, Int.toNat_of_nonneg h2]
  omega
theorem and_mask_i64 (x : Int) (e : Nat) (he : e ≤ 62) : bits .and .i64 x (((2 ^ e : Nat) : Int) - 1) = x % ((2 ^ e : Nat) : Int) := by
  have hp : 0 < 2 ^ e := Nat.two_pow_pos e
  have hle : 2 ^ e ≤ 2 ^ 62 := Nat.pow_le_pow_right (by omega) he
  have h1 := and_mask_nat x e he
  have h2 : 0 ≤ x % ((2 ^ e : Nat) : Int) := Int.emod_nonneg _ (by omega)
  have h3 : x % ((2 ^ e : Nat) : Int) < ((2 ^ e : Nat) : Int) := Int.emod_lt_of_pos _ (by omega)
  show IntKind.i64.wrap ((BitVec.ofInt 64 x &&& BitVec.ofInt 64 (((2 ^ e : Nat) : Int) - 1)).toNat : Int) = _
  rw [h1, IntKind.wrap_i64, Int.toNat_of_nonneg h2]
  omega

/-! ### The taken pairs of a row -/

abbrev P := Int × Int
/-- The taken ones of the first n, in their order. -/
def tkL (F : Nat → P) : Nat → List P
  | 0 => []
  | n + 1 => tkL F n ++ if (F n).2 = 0 then [] else [F n]

theorem tkL_le (F : Nat → P) (n : Nat) : (tkL F n).length ≤ n := by
  induction n with
  | zero => simp [tkL]
  | succ n ih => simp only [tkL, List.length_append]; split <;> simp <;> omega
theorem tkL_mono (F : Nat → P) {m n : Nat} (h : m ≤ n) : (tkL F m).length ≤ (tkL F n).length := by
  induction n with
  | zero => have : m = 0 := by omega
            subst this; exact Nat.le_refl _
  | succ n ih =>
    by_cases e : m = n + 1
    · subst e; exact Nat.le_refl _
    · have := ih (by omega)
      simp only [tkL, List.length_append]; omega
theorem tkL_congr {F G : Nat → P} {n : Nat} (h : ∀ i, i < n → F i = G i) : tkL F n = tkL G n := by
  induction n with
  | zero => rfl
  | succ n ih => simp only [tkL]; rw [ih (fun i hi => h i (by omega)), h n (by omega)]
theorem tkL_full {F : Nat → P} {n : Nat} (h : ∀ i, i < n → (F i).2 ≠ 0) : (tkL F n).length = n := by
  induction n with
  | zero => rfl
  | succ n ih => simp only [tkL, List.length_append]; rw [ih (fun i hi => h i (by omega)), if_neg (h n (by omega))]; rfl
theorem tkL_zero {F : Nat → P} {n : Nat} (h : ∀ i, i < n → (F i).2 = 0) : tkL F n = [] := by
  induction n with
  | zero => rfl
  | succ n ih => simp only [tkL]; rw [ih (fun i hi => h i (by omega)), if_pos (h n (by omega))]; rfl

def upd (F : Nat → P) (k : Nat) (p : P) : Nat → P := fun i => if i = k then p else F i
theorem upd_same (F : Nat → P) (k : Nat) (p : P) : upd F k p k = p := by simp [upd]
theorem upd_other (F : Nat → P) {k i : Nat} (p : P) (h : i ≠ k) : upd F k p i = F i := by simp [upd, h]

theorem tkL_upd (F : Nat → P) (k : Nat) (p : P) (hp : p.2 ≠ 0) (hk : (F k).2 = 0) : ∀ n, k < n → (tkL (upd F k p) n).Perm (p :: tkL F n) := by
  intro n
  induction n with
  | zero => intro h; omega
  | succ n ih =>
    intro h
    simp only [tkL]
    by_cases e : k = n
    · subst e
      rw [upd_same, if_neg hp, if_pos hk, List.append_nil, tkL_congr (fun i hi => upd_other F p (by omega : i ≠ k))]
      exact List.perm_append_singleton p _
    · rw [upd_other F p (by omega : n ≠ k)]
      exact (ih (by omega)).append_right _

/-! ### The table -/

/-- The home slot of a hash in a table of z slots. -/
def home (z : Nat) (h : Int) : Nat := (h % (z : Int)).toNat
theorem home_lt {z : Nat} (hz : 0 < z) (h : Int) : home z h < z := by
  unfold home
  have := Int.emod_lt_of_pos h (by omega : (0 : Int) < z)
  omega

/-- The table of z slots that holds the taken ones of the first j of S. -/
structure Table (S : Nat → P) (j z : Nat) (R : Nat → P) : Prop where
  perm : (tkL R z).Perm (tkL S j)
  blank : ∀ i, i < z → (R i).2 = 0 → (R i).1 = 0
  reach : ∀ i, i < z → (R i).2 ≠ 0 → ∀ d, (∃ D, (home z (R i).1 + D) % z = i ∧ D < z ∧ d ≤ D) → (R ((home z (R i).1 + d) % z)).2 ≠ 0

theorem table_new (S : Nat → P) (z : Nat) : Table S 0 z (fun _ => (0, 0)) :=
  ⟨by rw [tkL_zero (fun _ _ => rfl)]; exact List.Perm.refl _, fun _ _ _ => rfl, fun _ _ h => absurd rfl h⟩

theorem table_skip {S : Nat → P} {j z : Nat} {R : Nat → P} (h : Table S j z R) (h0 : (S j).2 = 0) : Table S (j + 1) z R :=
  ⟨by simp only [tkL]; rw [if_pos h0, List.append_nil]; exact h.perm, h.blank, h.reach⟩

theorem add_mod_lt_inj {z a x y : Nat} (hx : x < z) (hy : y < z) (h : (a + x) % z = (a + y) % z) : x = y := by
  have hz : 0 < z := by omega
  have h1 : ((a + x : Nat) : Int) % (z : Int) = ((a + y : Nat) : Int) % (z : Int) := by exact_mod_cast h
  rw [Int.natCast_add, Int.natCast_add, Int.add_comm (a : Int), Int.add_comm (a : Int)] at h1
  have h2 := (Int.emod_add_cancel_right (a : Int)).1 h1
  rw [Int.emod_eq_of_lt (by omega) (by omega), Int.emod_eq_of_lt (by omega) (by omega)] at h2
  omega

/-- A pair is put into the first free slot at or after its home. -/
theorem table_put {S : Nat → P} {j z : Nat} {R : Nat → P} (h : Table S j z R) (h0 : (S j).2 ≠ 0) (D i : Nat) (hD : D < z) (hi : (home z (S j).1 + D) % z = i)
    (hw : ∀ t, t < D → (R ((home z (S j).1 + t) % z)).2 ≠ 0) (hf : (R i).2 = 0) : Table S (j + 1) z (upd R i (S j)) := by
  have hz : 0 < z := by omega
  have hiz : i < z := by rw [← hi]; exact Nat.mod_lt _ hz
  refine ⟨?_, ?_, ?_⟩
  · simp only [tkL]
    rw [if_neg h0]
    exact (tkL_upd R i (S j) h0 hf z hiz).trans ((h.perm.cons _).trans (List.perm_append_singleton _ _).symm)
  · intro q hq hb
    by_cases e : q = i
    · subst e; rw [upd_same] at hb; exact absurd hb h0
    · rw [upd_other _ _ e] at hb ⊢; exact h.blank q hq hb
  · have stays : ∀ q, (R q).2 ≠ 0 → (upd R i (S j) q).2 ≠ 0 := by
      intro q hq
      by_cases e : q = i
      · subst e; rw [upd_same]; exact h0
      · rw [upd_other _ _ e]; exact hq
    intro q hq hb d hd
    by_cases e : q = i
    · subst e
      rw [upd_same] at hd ⊢
      obtain ⟨D', e1, e2, e3⟩ := hd
      have : D' = D := add_mod_lt_inj e2 hD (by rw [e1, hi])
      subst this
      by_cases e4 : d = D'
      · subst e4; rw [hi, upd_same]; exact h0
      · exact stays _ (hw d (by omega))
    · rw [upd_other _ _ e] at hb hd ⊢
      exact stays _ (h.reach q hq hb d hd)

/-- There is room: not every slot on the way is taken. -/
theorem probe_room {R : Nat → P} {z hm : Nat} (hz : 0 < z) (hlt : (tkL R z).length < z) : ¬ ∀ t, t < z → (R ((hm + t) % z)).2 ≠ 0 := by
  intro h
  have : ∀ i, i < z → (R i).2 ≠ 0 := by
    intro i hi
    have hm' : hm % z < z := Nat.mod_lt _ hz
    by_cases hc : hm % z ≤ i
    · have := h (i - hm % z) (by omega)
      rw [Nat.add_mod, Nat.mod_eq_of_lt (by omega : i - hm % z < z), show hm % z + (i - hm % z) = i from by omega, Nat.mod_eq_of_lt hi] at this
      exact this
    · have := h (i + z - hm % z) (by omega)
      rw [Nat.add_mod, Nat.mod_eq_of_lt (by omega : i + z - hm % z < z), show hm % z + (i + z - hm % z) = i + z from by omega, Nat.add_mod_right, Nat.mod_eq_of_lt hi] at this
      exact this
  have := tkL_full this
  omega

theorem mod_step (hm t z : Nat) : ((hm + t) % z + 1) % z = (hm + (t + 1)) % z := by
  rw [Nat.mod_add_mod, Nat.add_assoc]

end Go.Proofs.Qxb6602994a.Tab
