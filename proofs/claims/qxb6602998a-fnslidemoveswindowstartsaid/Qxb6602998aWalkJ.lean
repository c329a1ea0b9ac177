/- The walk of FnSlideMovesWindowStart. -/
import Derived.Test.Qxb6602998aWalkI
namespace Go.Proofs.Qxb6602998a
open Go.RowKit Fl
set_option linter.unusedVariables false

theorem meter_new (w : World) (s l b : Nat) : Meter (w.alloc (.cells #[.float .f64 s, .float .f64 l, .float .f64 b] 45)) w.heap.size s l b :=
  ⟨by simp, by simp, by simp, by simp, by simp, by simp⟩

set_option maxRecDepth 100000 in
set_option maxHeartbeats 4000000 in
theorem slideLaw_any (s l b n : Nat) (w : World) :
    Calls Try.prog 7 #[.float .f64 s, .float .f64 l, .float .f64 b, .float .f64 n] w fun e w' => e = .returned (.bool true) ∧ Below w.heap.size w w' := by
  have hS := hide (zzSlide_any s l b n _ w.heap.size _ (meter_new w s l b) rfl)
  go_enter Try.func7, Try.ntmps7
  go_wp2_with fail
  refine (newMeter_any s l b _).mono ?_
  rintro e w1 ⟨rfl, rfl⟩
  go_wp2_with fail
  refine hS.out.mono ?_
  rintro e w2 ⟨rfl, s2, b2, hSl, hM, hB⟩
  have hB0 : Below w.heap.size w w2 := ((Below.refl _ _).alloc (Nat.le_refl _) _).trans hB
  clear hS hB
  have HF := hide (found_of hSl w2.drew)
  clear hSl
  go_wp2_with fail
  refine (fields_any s2 l b2 w.heap.size w2 hM.c0 hM.c1 hM.c2).mono ?_
  rintro e w3 ⟨rfl, rfl⟩
  clear hM
  go_wp2_with fail
  refine (sameF_at l l _ (hide (sameB_self l))).mono ?_
  rintro e w4 ⟨rfl, rfl⟩
  have ks := fun wx x y => run_fv_sub (P := Try.prog) 32 x y wx
  obtain ⟨w5, hw5⟩ : ∃ w5, fw .sub n 4626322717216342016 w2.drew = w5 := ⟨_, rfl⟩
  have hB5 : Below w.heap.size w w5 := by rw [← hw5]; exact below_fw hB0.drew _ _ _
  obtain ⟨f, hf⟩ : ∃ f, fv .sub n 4626322717216342016 w2.drew = f := ⟨_, rfl⟩
  rw [hf] at HF
  rcases HF.out with ⟨h1, h2, h3⟩ | ⟨h1, h2, h3, h4⟩ | ⟨h1, h2, h3, h4⟩
  · have h1' : FloatKind.f64.format.order f s = some .lt ∨ FloatKind.f64.format.order f s = some .eq := by simpa [leqF] using h1
    have H2 := hide h2
    have H3 := hide h3
    clear h1 h2 h3 HF
    rcases h1' with h1' | h1'
    all_goals
      go_wp2_with fail
      refine (sameF_at s2 s _ H2).mono ?_
      rintro e w6 ⟨rfl, rfl⟩
      go_wp2_with fail
      refine (sameF_at b2 b _ H3).mono ?_
      rintro e w7 ⟨rfl, rfl⟩
      go_wp2_with fail
      go_ret
      exact ⟨rfl, hB5⟩
  · have h1' : (FloatKind.f64.format.order f s == some .lt || FloatKind.f64.format.order f s == some .eq) = false := h1
    have h3' : FloatKind.f64.format.order f l = some .gt ∨ FloatKind.f64.format.order f l = some .eq := by simpa [geqF] using h3
    have h4' : FloatKind.f64.format.order b2 0 = some .eq := by simpa [eqF] using h4
    have H2 := hide h2
    clear h1 h2 h3 h4 HF
    rcases h3' with h3' | h3'
    all_goals
      go_wp2_with fail
      refine (sameF_at s2 f _ H2).mono ?_
      rintro e w6 ⟨rfl, rfl⟩
      go_wp2_with fail
      go_ret
      exact ⟨rfl, hB5⟩
  · have h1' : (FloatKind.f64.format.order f s == some .lt || FloatKind.f64.format.order f s == some .eq) = false := h1
    have h3' : (FloatKind.f64.format.order f l == some .gt || FloatKind.f64.format.order f l == some .eq) = false := h3
    have H2 := hide h2
    have HC := hide h4
    clear h1 h2 h3 h4 HF
    go_wp2_with fail
    refine (sameF_at s2 f _ H2).mono ?_
    rintro e w6 ⟨rfl, rfl⟩
    clear H2 hf hw5
    go_upto_region 13 with fail
    go_cut [70] (fun v wx => (∃ m : Bool, v = .bool m ∧ Hid (m = true → ordB s = true ∧ ordB l = true ∧ ordB n = true ∧ geqF b 0 = true ∧ leqF b 9218868437227405311 = true)) ∧ wx = w6)
    case first =>
      cases hs : ordB s with
      | false =>
        have Hs := hide hs
        clear hs
        go_wp2_with fail
        refine (ord_at s false _ Hs).mono ?_
        rintro e w7 ⟨rfl, rfl⟩
        go_wp2_with fail
        go_meet
        exact ⟨⟨_, rfl, hide (fun h => by simp at h)⟩, rfl⟩
      | true =>
      have Hs := hide hs
      clear hs
      cases hl : ordB l with
      | false =>
        have Hl := hide hl
        clear hl
        go_wp2_with fail
        refine (ord_at s true _ Hs).mono ?_
        rintro e w7 ⟨rfl, rfl⟩
        go_wp2_with fail
        refine (ord_at l false _ Hl).mono ?_
        rintro e w8 ⟨rfl, rfl⟩
        go_wp2_with fail
        go_meet
        exact ⟨⟨_, rfl, hide (fun h => by simp at h)⟩, rfl⟩
      | true =>
      have Hl := hide hl
      clear hl
      cases hn : ordB n with
      | false =>
        have Hn := hide hn
        clear hn
        go_wp2_with fail
        refine (ord_at s true _ Hs).mono ?_
        rintro e w7 ⟨rfl, rfl⟩
        go_wp2_with fail
        refine (ord_at l true _ Hl).mono ?_
        rintro e w8 ⟨rfl, rfl⟩
        go_wp2_with fail
        refine (ord_at n false _ Hn).mono ?_
        rintro e w9 ⟨rfl, rfl⟩
        go_wp2_with fail
        go_meet
        exact ⟨⟨_, rfl, hide (fun h => by simp at h)⟩, rfl⟩
      | true =>
      have Hn := hide hn
      clear hn
      cases hb : geqF b 0 with
      | false =>
        have hb' : (FloatKind.f64.format.order b 0 == some .gt || FloatKind.f64.format.order b 0 == some .eq) = false := hb
        clear hb
        go_wp2_with fail
        refine (ord_at s true _ Hs).mono ?_
        rintro e w7 ⟨rfl, rfl⟩
        go_wp2_with fail
        refine (ord_at l true _ Hl).mono ?_
        rintro e w8 ⟨rfl, rfl⟩
        go_wp2_with fail
        refine (ord_at n true _ Hn).mono ?_
        rintro e w9 ⟨rfl, rfl⟩
        go_wp2_with fail
        go_meet
        exact ⟨⟨_, rfl, hide (fun h => by simp at h)⟩, rfl⟩
      | true =>
      have Hb := hide hb
      have hb' : FloatKind.f64.format.order b 0 = some .gt ∨ FloatKind.f64.format.order b 0 = some .eq := by simpa [geqF] using hb
      clear hb
      rcases hb' with hb' | hb'
      all_goals
        go_wp2_with fail
        refine (ord_at s true _ Hs).mono ?_
        rintro e w7 ⟨rfl, rfl⟩
        go_wp2_with fail
        refine (ord_at l true _ Hl).mono ?_
        rintro e w8 ⟨rfl, rfl⟩
        go_wp2_with fail
        refine (ord_at n true _ Hn).mono ?_
        rintro e w9 ⟨rfl, rfl⟩
        go_wp2_with fail
        go_meet
        exact ⟨⟨_, rfl, hide (fun h => ⟨Hs.out, Hl.out, Hn.out, Hb.out, h⟩)⟩, rfl⟩
    case rest =>
    obtain ⟨⟨m, rfl, HM⟩, rfl⟩ := hcut
    cases m
    · go_wp2_with fail
      go_ret
      exact ⟨rfl, hB5⟩
    · obtain ⟨a1, a2, a3, a4, a5⟩ := HM.out rfl
      have hp := HC.out.pos a1 a2 a3 a4 a5
      have HN := hide (HC.out.nil a1 a2 a3 a4 a5)
      clear a1 a2 a3 a4 a5 HM HC
      have hp' : FloatKind.f64.format.order b2 0 = some .gt ∨ FloatKind.f64.format.order b2 0 = some .eq := by simpa [geqF] using hp
      clear hp
      cases hb0 : eqF b 0 with
      | true =>
        have hz : FloatKind.f64.format.order b2 0 = some .eq := by simpa [eqF] using HN.out hb0
        have hb0' : FloatKind.f64.format.order b 0 = some .eq := by simpa [eqF] using hb0
        clear hb0 hp' HN
        go_wp2_with fail
        go_ret
        exact ⟨rfl, hB5⟩
      | false =>
        have hb0' : (FloatKind.f64.format.order b 0 == some .eq) = false := hb0
        clear hb0 HN
        rcases hp' with hp' | hp'
        all_goals
          go_wp2_with fail
          go_ret
          exact ⟨rfl, hB5⟩
end Go.Proofs.Qxb6602998a
