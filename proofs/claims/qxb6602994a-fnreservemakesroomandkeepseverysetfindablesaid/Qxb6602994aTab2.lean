/- The plain mathematics of the hash table of seat b6602994a: runs of taken slots; the bottom-up merge sort. -/
import Derived.Test.Qxb6602994aTab
namespace Go.Proofs.Qxb6602994a.Tab

/-! ### Runs -/

/-- How many taken slots stand in a row, ending at the t-th slot behind 'free'. -/
def runF (R : Nat → P) (free z : Nat) : Nat → Nat
  | 0 => 0
  | t + 1 => if (R ((free + (t + 1)) % z)).2 = 0 then 0 else runF R free z t + 1

theorem runF_le (R : Nat → P) (free z t : Nat) : runF R free z t ≤ t := by
  induction t with
  | zero => exact Nat.le_refl _
  | succ t ih => simp only [runF]; split <;> omega

theorem runF_gt {R : Nat → P} {free z : Nat} (hz : 0 < z) (hfz : free < z) (hf : (R free).2 = 0) : ∀ (s D : Nat),
    (∀ t, t ≤ D → ∀ q, q < z → (q + t) % z = (free + s) % z → (R q).2 ≠ 0) → D < runF R free z s := by
  intro s
  induction s with
  | zero =>
    intro D h
    exact absurd hf (h 0 (by omega) free hfz (by simp))
  | succ s ih =>
    intro D h
    have h0 := h 0 (by omega) ((free + (s + 1)) % z) (Nat.mod_lt _ hz) (by simp)
    simp only [runF]
    rw [if_neg h0]
    cases D with
    | zero => omega
    | succ D =>
      have := ih D (fun t ht q hq e => h (t + 1) (by omega) q hq (by
        rw [show q + (t + 1) = q + t + 1 from rfl, Nat.add_mod, e, show free + (s + 1) = free + s + 1 from rfl, ← Nat.add_mod]))
      omega

/-- How far a slot lies behind its home. -/
def dist (z : Nat) (j : Nat) (h : Int) : Int := ((j : Int) - (home z h : Int)) % (z : Int)

theorem dist_spec {z j : Nat} (hj : j < z) (h : Int) : ∃ D : Nat, dist z j h = D ∧ D < z ∧ (home z h + D) % z = j := by
  have hz : (0 : Int) < z := by omega
  have h0 : 0 ≤ dist z j h := Int.emod_nonneg _ (by omega)
  have h1 : dist z j h < z := Int.emod_lt_of_pos _ hz
  refine ⟨(dist z j h).toNat, by omega, by omega, ?_⟩
  have : (((home z h + (dist z j h).toNat) % z : Nat) : Int) = j := by
    rw [Int.natCast_emod, Int.natCast_add, Int.toNat_of_nonneg h0]
    unfold dist
    rw [Int.add_emod_emod_of_le, show (home z h : Int) + ((j : Int) - (home z h : Int)) = j from by omega]
    exact Int.emod_eq_of_lt (by omega) (by omega)
  omega
where
  Int.add_emod_emod_of_le {a b c : Int} : (a + b % c) % c = (a + b) % c := Int.add_emod_right_of a b c
  Int.add_emod_right_of (a b c : Int) : (a + b % c) % c = (a + b) % c := by simp

theorem dist_lt_run {S R : Nat → P} {n z free s j : Nat} (hT : Table S n z R) (hfz : free < z) (hf : (R free).2 = 0) (hj : j < z) (ht : (R j).2 ≠ 0) (hs : (free + s) % z = j) :
    dist z j (R j).1 < (runF R free z s : Int) := by
  obtain ⟨D, e1, e2, e3⟩ := dist_spec hj (R j).1
  rw [e1]
  have := runF_gt (by omega : 0 < z) hfz hf s D (fun t ht' q hq e => ?_)
  · exact_mod_cast this
  · have hr := hT.reach j hj ht (D - t) ⟨D, e3, e2, by omega⟩
    have : (home z (R j).1 + (D - t)) % z = q := by
      rw [hs, ← e3] at e
      have h1 : ((q + t : Nat) : Int) % (z : Int) = ((home z (R j).1 + (D - t) + t : Nat) : Int) % (z : Int) := by
        rw [show home z (R j).1 + (D - t) + t = home z (R j).1 + D from by omega]
        exact_mod_cast e
      rw [Int.natCast_add, Int.natCast_add (home z (R j).1 + (D - t))] at h1
      have h2 := (Int.emod_add_cancel_right (t : Int)).1 h1
      have h3 : q % z = (home z (R j).1 + (D - t)) % z := by exact_mod_cast h2
      rw [← h3, Nat.mod_eq_of_lt hq]
    rw [this] at hr
    exact hr

theorem step_of {free z j : Nat} (hf : free < z) (hj : j < z) : ∃ s, s < z ∧ (free + s) % z = j := by
  by_cases h : free ≤ j
  · exact ⟨j - free, by omega, by rw [show free + (j - free) = j from by omega]; exact Nat.mod_eq_of_lt hj⟩
  · exact ⟨j + z - free, by omega, by rw [show free + (j + z - free) = j + z from by omega, Nat.add_mod_right]; exact Nat.mod_eq_of_lt hj⟩

/-! ### The order of the slots -/

def less (a b : P) : Bool := if a.1 = b.1 then decide (a.2 < b.2) else decide (a.1 < b.1)
def le (a b : P) : Bool := !less b a

theorem le_iff (a b : P) : le a b = true ↔ (a.1 < b.1 ∨ (a.1 = b.1 ∧ a.2 ≤ b.2)) := by
  unfold le less
  by_cases h : b.1 = a.1
  · simp [h]
  · simp [h]; omega
theorem le_trans' (a b c : P) (h1 : le a b = true) (h2 : le b c = true) : le a c = true := by
  rw [le_iff] at h1 h2 ⊢; omega
theorem le_total' (a b : P) : (le a b || le b a) = true := by
  rw [Bool.or_eq_true, le_iff, le_iff]; omega
theorem le_antisymm' (a b : P) (h1 : le a b = true) (h2 : le b a = true) : a = b := by
  rw [le_iff] at h1 h2
  obtain ⟨a1, a2⟩ := a
  obtain ⟨b1, b2⟩ := b
  simp only at h1 h2
  have e1 : a1 = b1 := by omega
  have e2 : a2 = b2 := by omega
  rw [e1, e2]

/-! ### Segments -/

def seg (F : Nat → P) (a b : Nat) : List P := (List.range' a (b - a)).map F
theorem seg_nil (F : Nat → P) {a b : Nat} (h : b ≤ a) : seg F a b = [] := by
  unfold seg; rw [show b - a = 0 from by omega]; rfl
theorem seg_cons (F : Nat → P) {a b : Nat} (h : a < b) : seg F a b = F a :: seg F (a + 1) b := by
  unfold seg; rw [show b - a = (b - (a + 1)) + 1 from by omega, List.range'_succ]; rfl
theorem seg_snoc (F : Nat → P) {a b : Nat} (h : a ≤ b) : seg F a (b + 1) = seg F a b ++ [F b] := by
  unfold seg; rw [show b + 1 - a = (b - a) + 1 from by omega, List.range'_concat, List.map_append]
  simp; congr 1; omega
theorem seg_append (F : Nat → P) {a b c : Nat} (h1 : a ≤ b) (h2 : b ≤ c) : seg F a b ++ seg F b c = seg F a c := by
  unfold seg
  rw [← List.map_append]
  have := List.range'_append (s := a) (m := b - a) (n := c - b) (step := 1)
  rw [show a + 1 * (b - a) = b from by omega, show b - a + (c - b) = c - a from by omega] at this
  rw [this]
theorem seg_congr {F G : Nat → P} {a b : Nat} (h : ∀ i, a ≤ i → i < b → F i = G i) : seg F a b = seg G a b := by
  unfold seg
  refine List.map_congr_left fun i hi => ?_
  rw [List.mem_range'_1] at hi
  exact h i hi.1 (by omega)
theorem seg_length (F : Nat → P) (a b : Nat) : (seg F a b).length = b - a := by simp [seg]
theorem seg_get (F : Nat → P) {a b i : Nat} (h : i < (seg F a b).length) : (seg F a b)[i] = F (a + i) := by
  simp [seg]
theorem seg_pairwise {F : Nat → P} {a b : Nat} : (seg F a b).Pairwise (fun x y => le x y = true) ↔ ∀ i j, a ≤ i → i < j → j < b → le (F i) (F j) = true := by
  rw [List.pairwise_iff_getElem]
  constructor
  · intro h i j h1 h2 h3
    have := h (i - a) (j - a) (by rw [seg_length]; omega) (by rw [seg_length]; omega) (by omega)
    rw [seg_get, seg_get, show a + (i - a) = i from by omega, show a + (j - a) = j from by omega] at this
    exact this
  · intro h i j h1 h2 h3
    rw [seg_get, seg_get]
    rw [seg_length] at h1 h2
    exact h _ _ (by omega) (by omega) (by omega)

/-! ### The passes -/

/-- Every block of width wd is sorted. -/
def Blk (F : Nat → P) (n wd : Nat) : Prop := ∀ i j, i < j → j < n → i / wd = j / wd → le (F i) (F j) = true

theorem blk_one (F : Nat → P) (n : Nat) : Blk F n 1 := fun i j h1 _ h2 => by rw [Nat.div_one, Nat.div_one] at h2; omega
theorem blk_all {F : Nat → P} {n wd : Nat} (h : Blk F n wd) (hw : n ≤ wd) : (seg F 0 n).Pairwise (fun x y => le x y = true) :=
  seg_pairwise.2 fun i j _ h2 h3 => h i j h2 h3 (by rw [Nat.div_eq_of_lt (by omega), Nat.div_eq_of_lt (by omega)])

/-- Within a pass: all below lo is merged. -/
structure Pass (Fs Fd : Nat → P) (n wd lo : Nat) : Prop where
  mul : lo % (2 * wd) = 0
  perm : (seg Fd 0 (min lo n)).Perm (seg Fs 0 (min lo n))
  blk : Blk Fd (min lo n) (2 * wd)

theorem pass_new (Fs Fd : Nat → P) (n wd : Nat) : Pass Fs Fd n wd 0 :=
  ⟨Nat.zero_mod _, by rw [Nat.zero_min, seg_nil _ (Nat.le_refl _), seg_nil _ (Nat.le_refl _)], fun i j _ h => by simp at h⟩

theorem same_block {lo w i : Nat} (hw : 0 < w) (hm : lo % w = 0) (h : lo ≤ i) (h2 : i < lo + w) : i / w = lo / w := by
  obtain ⟨q, rfl⟩ := Nat.dvd_of_mod_eq_zero hm
  rw [Nat.mul_div_cancel_left _ hw]
  have h3 : q * w ≤ i := by rw [Nat.mul_comm]; exact h
  have h4 : i < (q + 1) * w := by rw [Nat.add_mul, Nat.one_mul, Nat.mul_comm q w]; exact h2
  exact Nat.div_eq_of_lt_le h3 h4
theorem other_block {lo w i j : Nat} (hw : 0 < w) (hm : lo % w = 0) (h1 : i < lo) (h2 : lo ≤ j) : i / w ≠ j / w := by
  intro e
  have h3 : lo / w ≤ j / w := Nat.div_le_div_right h2
  obtain ⟨q, rfl⟩ := Nat.dvd_of_mod_eq_zero hm
  rw [Nat.mul_div_cancel_left _ hw] at h3
  have h4 : i / w < q := by rw [Nat.div_lt_iff_lt_mul hw, Nat.mul_comm]; exact h1
  omega

theorem pass_step {Fs Fd Fd' : Nat → P} {n wd lo : Nat} (hw : 0 < wd) (hlt : lo < n) (hB : Blk Fs n wd) (hP : Pass Fs Fd n wd lo)
    (hsame : ∀ i, i < lo → Fd' i = Fd i)
    (hm : seg Fd' lo (min (lo + 2 * wd) n) = (seg Fs lo (min (lo + wd) n)).merge (seg Fs (min (lo + wd) n) (min (lo + 2 * wd) n)) le) :
    Pass Fs Fd' n wd (lo + 2 * wd) := by
  have hm1 : lo % wd = 0 := by
    have := hP.mul
    exact Nat.mod_eq_zero_of_dvd (Nat.dvd_trans (Nat.dvd_mul_left wd 2) (Nat.dvd_of_mod_eq_zero this))
  have hml : min lo n = lo := by omega
  have p1 : (seg Fs lo (min (lo + wd) n)).Pairwise (fun x y => le x y = true) := seg_pairwise.2 fun i j h1 h2 h3 =>
    hB i j h2 (by omega) ((same_block hw hm1 h1 (by omega)).trans (same_block hw hm1 (by omega) (by omega)).symm)
  have p2 : (seg Fs (min (lo + wd) n) (min (lo + 2 * wd) n)).Pairwise (fun x y => le x y = true) := seg_pairwise.2 fun i j h1 h2 h3 =>
    hB i j h2 (by omega) (by
      have hm2 : (lo + wd) % wd = 0 := by rw [Nat.add_mod_right]; exact hm1
      exact (same_block hw hm2 (by omega) (by omega)).trans (same_block hw hm2 (by omega) (by omega)).symm)
  have pm := List.pairwise_merge le_trans' le_total' _ _ p1 p2
  rw [← hm] at pm
  have hperm := List.merge_perm_append le (xs := seg Fs lo (min (lo + wd) n)) (ys := seg Fs (min (lo + wd) n) (min (lo + 2 * wd) n))
  rw [← hm, seg_append _ (by omega) (by omega)] at hperm
  have hseg0 : seg Fd' 0 lo = seg Fd 0 lo := seg_congr fun i _ h => hsame i h
  refine ⟨by rw [Nat.add_mod_right]; exact hP.mul, ?_, ?_⟩
  · rw [← seg_append Fd' (Nat.zero_le lo) (by omega : lo ≤ min (lo + 2 * wd) n), ← seg_append Fs (Nat.zero_le lo) (by omega : lo ≤ min (lo + 2 * wd) n), hseg0]
    have := hP.perm
    rw [hml] at this
    exact this.append hperm
  · intro i j h1 h2 h3
    by_cases hj : j < lo
    · rw [hsame i (by omega), hsame j hj]
      exact hP.blk i j h1 (by omega) h3
    · by_cases hi : i < lo
      · exact absurd h3 (other_block (by omega) hP.mul hi (by omega))
      · exact seg_pairwise.1 pm i j (by omega) h1 h2

theorem pass_end {Fs Fd : Nat → P} {n wd lo : Nat} (hP : Pass Fs Fd n wd lo) (h : n ≤ lo) : (seg Fd 0 n).Perm (seg Fs 0 n) ∧ Blk Fd n (2 * wd) := by
  have e : min lo n = n := by omega
  have h1 := hP.perm
  have h2 := hP.blk
  rw [e] at h1 h2
  exact ⟨h1, h2⟩

/-- Two sorted rows of the same slots are one. -/
theorem sorted_eq {F G : Nat → P} {n : Nat} (h1 : (seg F 0 n).Pairwise (fun x y => le x y = true)) (h2 : (seg G 0 n).Pairwise (fun x y => le x y = true)) (hp : (seg F 0 n).Perm (seg G 0 n)) :
    ∀ i, i < n → F i = G i := by
  have := List.Perm.eq_of_pairwise (fun a b _ _ => le_antisymm' a b) h1 h2 hp
  intro i hi
  have e1 := seg_get F (a := 0) (b := n) (i := i) (by rw [seg_length]; omega)
  have e2 := seg_get G (a := 0) (b := n) (i := i) (by rw [seg_length]; omega)
  rw [Nat.zero_add] at e1 e2
  rw [← e1, ← e2]
  simp only [this]

/-- The row that holds a list. -/
def ofL (l : List P) (i : Nat) : P := l.getD i (0, 0)
theorem seg_ofL (l : List P) : seg (ofL l) 0 l.length = l := by
  refine List.ext_getElem (by rw [seg_length]; omega) fun i h1 h2 => ?_
  rw [seg_get, Nat.zero_add]
  unfold ofL
  rw [List.getD_eq_getElem?_getD, List.getElem?_eq_getElem h2]; rfl
theorem ofL_snoc (l : List P) (p : P) : ofL (l ++ [p]) = upd (ofL l) l.length p := by
  funext i
  unfold upd
  by_cases h : i = l.length
  · subst h; rw [if_pos rfl]; unfold ofL; simp
  · rw [if_neg h]
    unfold ofL
    rw [List.getD_eq_getElem?_getD, List.getD_eq_getElem?_getD]
    by_cases h2 : i < l.length
    · rw [List.getElem?_append_left h2]
    · rw [List.getElem?_eq_none (by simp; omega), List.getElem?_eq_none (by omega)]

end Go.Proofs.Qxb6602994a.Tab
