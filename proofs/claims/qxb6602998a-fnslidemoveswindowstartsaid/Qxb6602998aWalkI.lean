/- The walk of FnSlideMovesWindowStart. -/
import Derived.Test.Qxb6602998aWalkH
namespace Go.Proofs.Qxb6602998a
open Go.RowKit Fl
set_option linter.unusedVariables false

def eqF (x y : Nat) : Bool := FloatKind.f64.format.order x y == some .eq
/-- sameF -/
def sameB (x y : Nat) : Bool := eqF x y || (!eqF x x && !eqF y y)

theorem sameB_self (x : Nat) : sameB x x = true := by
  unfold sameB; cases eqF x x <;> rfl
theorem sameB_nan {x y : Nat} (hx : nanD x = true) (hy : nanD y = true) : sameB x y = true := by
  have e1 : eqF x x = false := by show (D.order x x == some .eq) = false; rw [order_nan_left hx]; rfl
  have e2 : eqF y y = false := by show (D.order y y == some .eq) = false; rw [order_nan_left hy]; rfl
  unfold sameB; rw [e1, e2]; cases eqF x y <;> rfl

set_option maxHeartbeats 1000000 in
theorem sameF_at (x y : Nat) (w : World) (h : Hid (sameB x y = true)) :
    Calls Try.prog 21 #[.float .f64 x, .float .f64 y] w fun e w' => e = .returned (.bool true) ∧ w' = w := by
  cases e1 : eqF x y with
  | true =>
    have e1' : FloatKind.f64.format.order x y = some .eq := by simpa [eqF] using e1
    clear e1 h
    go_enter Try.func21, Try.ntmps21
    go_wp2
    go_ret
    exact ⟨rfl, rfl⟩
  | false =>
    have h2 := h.out
    unfold sameB at h2
    rw [e1] at h2
    simp at h2
    have e1' : (FloatKind.f64.format.order x y == some .eq) = false := e1
    have e2' : (FloatKind.f64.format.order x x != some .eq) = true := by unfold bne; rw [show (FloatKind.f64.format.order x x == some .eq) = false from h2.1]; rfl
    have e3' : (FloatKind.f64.format.order y y != some .eq) = true := by unfold bne; rw [show (FloatKind.f64.format.order y y == some .eq) = false from h2.2]; rfl
    clear e1 h h2
    go_enter Try.func21, Try.ntmps21
    go_wp2
    go_ret
    exact ⟨rfl, rfl⟩

/-- ordinaryTime -/
def ordB (x : Nat) : Bool := geqF x 18318360957983683996 && leqF x 9094988921128908188

set_option maxHeartbeats 1000000 in
theorem ord_at (x : Nat) (v : Bool) (w : World) (h : Hid (ordB x = v)) :
    Calls Try.prog 22 #[.float .f64 x] w fun e w' => e = .returned (.bool v) ∧ w' = w := by
  obtain ⟨g, hg⟩ : ∃ g, (FloatKind.f64.format.order x 18318360957983683996 == some .gt || FloatKind.f64.format.order x 18318360957983683996 == some .eq) = g := ⟨_, rfl⟩
  obtain ⟨q, hq⟩ : ∃ q, (FloatKind.f64.format.order x 9094988921128908188 == some .lt || FloatKind.f64.format.order x 9094988921128908188 == some .eq) = q := ⟨_, rfl⟩
  have hv : (g && q) = v := by rw [← hg, ← hq]; exact h.out
  clear h
  subst hv
  cases g
  · go_enter Try.func22, Try.ntmps22
    go_wp2
    go_ret
    exact ⟨rfl, rfl⟩
  · have hg' : FloatKind.f64.format.order x 18318360957983683996 = some .gt ∨ FloatKind.f64.format.order x 18318360957983683996 = some .eq := by simpa using hg
    clear hg
    rcases hg' with hg' | hg'
    all_goals
      cases q
      · go_enter Try.func22, Try.ntmps22
        go_wp2
        go_ret
        exact ⟨rfl, rfl⟩
      · have hq' : FloatKind.f64.format.order x 9094988921128908188 = some .lt ∨ FloatKind.f64.format.order x 9094988921128908188 = some .eq := by simpa using hq
        clear hq
        rcases hq' with hq' | hq'
        all_goals
          go_enter Try.func22, Try.ntmps22
          go_wp2
          go_ret
          exact ⟨rfl, rfl⟩

/-- What the law asks of the new count, inside the window. -/
structure Counts (s l b n b2 : Nat) : Prop where
  pos : ordB s = true → ordB l = true → ordB n = true → geqF b 0 = true → leqF b 9218868437227405311 = true → geqF b2 0 = true
  nil : ordB s = true → ordB l = true → ordB n = true → geqF b 0 = true → leqF b 9218868437227405311 = true → eqF b 0 = true → eqF b2 0 = true

theorem counts_in {s l b n f b2 : Nat} (hf : nanD f = false) (f1 : leqF f s = false) (f2 : geqF f l = false)
    (h : ∃ wA wB wC wD : World, b2 = fv .quo (fv .mul b (fv .sub l f wA) wB) (fv .sub l s wC) wD) : Counts s l b n b2 := by
  obtain ⟨wA, wB, wC, wD, rfl⟩ := h
  have key : ordB s = true → ordB l = true → geqF b 0 = true → leqF b 9218868437227405311 = true →
      geqF (fv .quo (fv .mul b (fv .sub l f wA) wB) (fv .sub l s wC) wD) 0 = true ∧ (eqF b 0 = true → eqF (fv .quo (fv .mul b (fv .sub l f wA) wB) (fv .sub l s wC) wD) 0 = true) := by
    intro hs hl h0 h1
    unfold ordB at hs hl
    simp only [Bool.and_eq_true] at hs hl
    obtain ⟨d1, p, d2, q, e1, e2, e3, e4, r1, r2⟩ := slide_law (s := s) (l := l) (b := b) (f := f) hs.1 hs.2 hl.1 hl.2 h0 h1 hf f1 f2
    rw [fv_some (show floatBits .sub .f64 l f = some d1 from e1), fv_some (show floatBits .mul .f64 b d1 = some p from e2), fv_some (show floatBits .sub .f64 l s = some d2 from e3), fv_some (show floatBits .quo .f64 p d2 = some q from e4)]
    exact ⟨r1, r2⟩
  exact ⟨fun a b _ c d => (key a b c d).1, fun a b _ c d e => (key a b c d).2 e⟩

theorem counts_nan {s l b n b2 : Nat} (hn : nanD n = true) : Counts s l b n b2 := by
  have : ordB n = false := by
    unfold ordB geqF
    rw [show FloatKind.f64.format.order n 18318360957983683996 = none from order_nan_left hn]; rfl
  exact ⟨fun _ _ h => (by rw [this] at h; cases h), fun _ _ h => (by rw [this] at h; cases h)⟩

/-- What the law finds, whichever way the meter went: f is the window's start as the law reckons it. -/
def Found (s l b n f s2 b2 : Nat) : Prop :=
  (leqF f s = true ∧ sameB s2 s = true ∧ sameB b2 b = true) ∨ (leqF f s = false ∧ sameB s2 f = true ∧ geqF f l = true ∧ eqF b2 0 = true) ∨
  (leqF f s = false ∧ sameB s2 f = true ∧ geqF f l = false ∧ Counts s l b n b2)

theorem found_of {s l b n s2 b2 : Nat} {wa : World} (h : Slid s l b (fv .sub n 4626322717216342016 wa) s2 b2) (wb : World) : Found s l b n (fv .sub n 4626322717216342016 wb) s2 b2 := by
  cases hn : nanD n with
  | true =>
    have h0 : floatBits .sub .f64 n 4626322717216342016 = none := sub_nan hn
    have na := fv_none h0 wa
    have nb := fv_none h0 wb
    have l1 : ∀ y, leqF (fv .sub n 4626322717216342016 wa) y = false := fun y => by
      unfold leqF; rw [show FloatKind.f64.format.order _ y = none from order_nan_left na]; rfl
    have l2 : ∀ y, leqF (fv .sub n 4626322717216342016 wb) y = false := fun y => by
      unfold leqF; rw [show FloatKind.f64.format.order _ y = none from order_nan_left nb]; rfl
    have g1 : ∀ y, geqF (fv .sub n 4626322717216342016 wa) y = false := fun y => by
      unfold geqF; rw [show FloatKind.f64.format.order _ y = none from order_nan_left na]; rfl
    have g2 : ∀ y, geqF (fv .sub n 4626322717216342016 wb) y = false := fun y => by
      unfold geqF; rw [show FloatKind.f64.format.order _ y = none from order_nan_left nb]; rfl
    rcases h with ⟨h1, _⟩ | ⟨_, h2, _⟩ | ⟨_, _, rfl, _⟩
    · rw [l1] at h1; cases h1
    · rw [g1] at h2; cases h2
    · exact .inr (.inr ⟨l2 _, sameB_nan na nb, g2 _, counts_nan hn⟩)
  | false =>
    obtain ⟨m, i, h20⟩ := read_c20
    obtain ⟨r, hr⟩ := sub_number hn h20
    have h0 : floatBits .sub .f64 n 4626322717216342016 = some r := hr
    have nr := sub_not_nan hr
    rw [fv_some h0] at h ⊢
    rcases h with ⟨h1, rfl, rfl⟩ | ⟨h1, h2, rfl, rfl⟩ | ⟨h1, h2, rfl, h3⟩
    · exact .inl ⟨h1, sameB_self _, sameB_self _⟩
    · exact .inr (.inl ⟨h1, sameB_self _, h2, by show (D.order 0 0 == some .eq) = true; decide +kernel⟩)
    · exact .inr (.inr ⟨h1, sameB_self _, h2, counts_in nr h1 h2 h3⟩)
end Go.Proofs.Qxb6602998a
