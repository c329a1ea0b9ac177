/- The walks of seat b6602998a: inside the window. -/
import Derived.Test.Qxb6602998aWalkG
namespace Go.Proofs.Qxb6602998a
open Go.RowKit Fl
set_option linter.unusedVariables false
set_option linter.unusedSimpArgs false
attribute [local go_sem] run_store_float

theorem slide_fin {w1 : World} {B s l b f R : Nat} (h : Hid (Meter w1 B s l b)) (o1 o2 o3 o4 : BinOp) (x1 y1 x2 y2 x3 y3 x4 y4 : Nat)
    (hR : ∃ wA wB wC wD : World, R = fv .quo (fv .mul b (fv .sub l f wA) wB) (fv .sub l s wC) wD) :
    ∃ (R' : Nat) (wA wB wC wD : World), R' = fv .quo (fv .mul b (fv .sub l f wA) wB) (fv .sub l s wC) wD ∧
      Meter (((fw o4 x4 y4 (fw o3 x3 y3 (fw o2 x2 y2 (fw o1 x1 y1 w1.drew)))).setCell ⟨B, 2, none⟩ (.float .f64 R)).setCell ⟨B, 0, none⟩ (.float .f64 f)) B f l R' ∧
      Below B w1 (((fw o4 x4 y4 (fw o3 x3 y3 (fw o2 x2 y2 (fw o1 x1 y1 w1.drew)))).setCell ⟨B, 2, none⟩ (.float .f64 R)).setCell ⟨B, 0, none⟩ (.float .f64 f)) := by
  obtain ⟨wA, wB, wC, wD, e⟩ := hR
  exact ⟨R, wA, wB, wC, wD, e, (((((h.out.drew).fw _ _ _).fw _ _ _).fw _ _ _).fw _ _ _).slid f R,
    Below.setCell (p := ⟨B, 0, none⟩) (Below.setCell (p := ⟨B, 2, none⟩) (below_fw (below_fw (below_fw (below_fw (Below.refl B w1).drew _ _ _) _ _ _) _ _ _) _ _ _) (Nat.le_refl B) _) (Nat.le_refl B) _⟩

set_option maxHeartbeats 8000000 in
theorem slide_in (s l b n f B : Nat) (w w1 : World) (hM : Meter w1 B s l b) (hf : fv .sub n 4626322717216342016 w = f) (hw : fw .sub n 4626322717216342016 w = w1) (h1 : leqF f s = false) (h2 : geqF f l = false) :
    Calls Try.prog 24 #[.pointer (some ⟨B, 0, none⟩), .float .f64 n] w fun e w' => e = .returned (.tuple #[]) ∧ ∃ (R : Nat) (wA wB wC wD : World), R = fv .quo (fv .mul b (fv .sub l f wA) wB) (fv .sub l s wC) wD ∧ Meter w' B f l R ∧ Below B w1 w' := by
  have HM := hide hM
  obtain ⟨c0, c1, c2, f0, f1, f2⟩ := hM
  have ks := fun wx x y => run_fv_sub (P := Try.prog) 32 x y wx
  have km := fun wx x y => run_fv_mul (P := Try.prog) 32 x y wx
  have kq := fun wx x y => run_fv_quo (P := Try.prog) 32 x y wx
  have kc := fw_cell
  have kf := fw_frozen
  unfold leqF at h1
  unfold geqF at h2
  go_enter Try.func24, Try.ntmps24
  go_wp2
  clear hf hw h1 h2
  refine wp_region_noPanic ?_
  refine wp_region_held_drew (S := fun wx => wx.cell? ⟨B, 0, none⟩ = some (.float .f64 s) ∧ wx.cell? ⟨B, 1, none⟩ = some (.float .f64 l)) (by kernel_rfl) ⟨c0, c1⟩ ?_
  intro hS
  refine wpAnyH_take (i := 0) (v := ?_) rfl (by kernel_rfl) (by kernel_rfl) (by kernel_rfl) (fun _ _ _ h => h) (Or.inl ⟨by rfl, by intro wz hz; obtain ⟨hz0, hz1⟩ := hz; go_simp; with_reducible rfl⟩) (by assumption) ?_
  try simp only [Act.put, List.setIfInBounds_toArray, List.set_cons_zero, List.set_cons_succ]
  refine wpAnyH_take (i := 1) (v := ?_) rfl (by kernel_rfl) (by kernel_rfl) (by kernel_rfl) (fun _ _ _ h => h) (Or.inl ⟨by rfl, by intro wz hz; obtain ⟨hz0, hz1⟩ := hz; go_simp; with_reducible rfl⟩) (by assumption) ?_
  try simp only [Act.put, List.setIfInBounds_toArray, List.set_cons_zero, List.set_cons_succ]
  refine wpAnyH_take (i := 2) (v := ?_) rfl (by kernel_rfl) (by kernel_rfl) (by kernel_rfl) (fun _ _ _ h => h) (Or.inl ⟨by rfl, by intro wz hz; obtain ⟨hz0, hz1⟩ := hz; go_simp; with_reducible rfl⟩) (by assumption) ?_
  try simp only [Act.put, List.setIfInBounds_toArray, List.set_cons_zero, List.set_cons_succ]
  refine wpAnyH_take (i := 3) (v := ?_) rfl (by kernel_rfl) (by kernel_rfl) (by kernel_rfl) (fun _ _ _ h => h) (Or.inl ⟨by rfl, by intro wz hz; obtain ⟨hz0, hz1⟩ := hz; go_simp; with_reducible rfl⟩) (by assumption) ?_
  try simp only [Act.put, List.setIfInBounds_toArray, List.set_cons_zero, List.set_cons_succ]
  refine wpAnyH_take (i := 5) (v := ?_) rfl (by kernel_rfl) (by kernel_rfl) (by kernel_rfl) (fun _ _ _ h => h) (Or.inl ⟨by rfl, by intro wz hz; obtain ⟨hz0, hz1⟩ := hz; go_simp; with_reducible rfl⟩) (by assumption) ?_
  try simp only [Act.put, List.setIfInBounds_toArray, List.set_cons_zero, List.set_cons_succ]
  refine wpAnyH_take (i := 6) (v := ?_) rfl (by kernel_rfl) (by kernel_rfl) (by kernel_rfl) (fun _ _ _ h => h) (Or.inl ⟨by rfl, by intro wz hz; obtain ⟨hz0, hz1⟩ := hz; go_simp; with_reducible rfl⟩) (by assumption) ?_
  try simp only [Act.put, List.setIfInBounds_toArray, List.set_cons_zero, List.set_cons_succ]
  refine wpAnyH_take (i := 7) (v := ?_) rfl (by kernel_rfl) (by kernel_rfl) (by kernel_rfl) (fun _ _ _ h => h) (Or.inl ⟨by rfl, by intro wz hz; obtain ⟨hz0, hz1⟩ := hz; go_simp; with_reducible rfl⟩) (by assumption) ?_
  try simp only [Act.put, List.setIfInBounds_toArray, List.set_cons_zero, List.set_cons_succ]
  refine wpAnyH_take (i := 8) (v := ?_) rfl (by kernel_rfl) (by kernel_rfl) (by kernel_rfl) (fun _ _ _ h => h) (Or.inl ⟨by rfl, by intro wz hz; obtain ⟨hz0, hz1⟩ := hz; go_simp; with_reducible rfl⟩) (by assumption) ?_
  try simp only [Act.put, List.setIfInBounds_toArray, List.set_cons_zero, List.set_cons_succ]
  refine wpAnyH_take (i := 9) (v := ?_) rfl (by kernel_rfl) (by kernel_rfl) (by kernel_rfl) (fun _ _ _ h => h) (Or.inl ⟨by rfl, by intro wz hz; obtain ⟨hz0, hz1⟩ := hz; go_simp; with_reducible rfl⟩) (by assumption) ?_
  try simp only [Act.put, List.setIfInBounds_toArray, List.set_cons_zero, List.set_cons_succ]
  refine wpAnyH_take (i := 12) (v := ?_) rfl (by kernel_rfl) (by kernel_rfl) (by kernel_rfl) (fun _ _ _ h => h) (Or.inl ⟨by rfl, by intro wz hz; obtain ⟨hz0, hz1⟩ := hz; go_simp; with_reducible rfl⟩) (by assumption) ?_
  try simp only [Act.put, List.setIfInBounds_toArray, List.set_cons_zero, List.set_cons_succ]
  refine wpAnyH_take (i := 13) (v := ?_) rfl (by kernel_rfl) (by kernel_rfl) (by kernel_rfl) (fun _ _ _ h => h) (Or.inl ⟨by rfl, by intro wz hz; obtain ⟨hz0, hz1⟩ := hz; go_simp; with_reducible rfl⟩) (by assumption) ?_
  try simp only [Act.put, List.setIfInBounds_toArray, List.set_cons_zero, List.set_cons_succ]
  refine wpAnyH_take (i := 14) (v := ?_) rfl (by kernel_rfl) (by kernel_rfl) (by kernel_rfl) (fun _ _ _ h => h) (Or.inl ⟨by rfl, by intro wz hz; obtain ⟨hz0, hz1⟩ := hz; go_simp; with_reducible rfl⟩) (by assumption) ?_
  try simp only [Act.put, List.setIfInBounds_toArray, List.set_cons_zero, List.set_cons_succ]
  refine wpAnyH_take (i := 15) (v := ?_) rfl (by kernel_rfl) (by kernel_rfl) (by kernel_rfl) (fun _ _ _ h => h) (Or.inl ⟨by rfl, by intro wz hz; obtain ⟨hz0, hz1⟩ := hz; go_simp; with_reducible rfl⟩) (by assumption) ?_
  try simp only [Act.put, List.setIfInBounds_toArray, List.set_cons_zero, List.set_cons_succ]
  refine wpAnyH_take (i := 16) (v := ?_) rfl (by kernel_rfl) (by kernel_rfl) (by kernel_rfl) (fun _ _ _ h => h) (Or.inl ⟨by rfl, by intro wz hz; obtain ⟨hz0, hz1⟩ := hz; go_simp; with_reducible rfl⟩) (by assumption) ?_
  try simp only [Act.put, List.setIfInBounds_toArray, List.set_cons_zero, List.set_cons_succ]
  refine wpAnyH_take (i := 17) (v := ?_) rfl (by kernel_rfl) (by kernel_rfl) (by kernel_rfl) (fun _ _ _ h => h) (Or.inl ⟨by rfl, by intro wz hz; obtain ⟨hz0, hz1⟩ := hz; go_simp; with_reducible rfl⟩) (by assumption) ?_
  try simp only [Act.put, List.setIfInBounds_toArray, List.set_cons_zero, List.set_cons_succ]
  refine wpAnyH_take (i := 18) (v := ?_) rfl (by kernel_rfl) (by kernel_rfl) (by kernel_rfl) (fun _ _ _ h => h) (Or.inl ⟨by rfl, by intro wz hz; obtain ⟨hz0, hz1⟩ := hz; go_simp; with_reducible rfl⟩) (by assumption) ?_
  try simp only [Act.put, List.setIfInBounds_toArray, List.set_cons_zero, List.set_cons_succ]
  refine wpAnyH_take (i := 19) (v := ?_) rfl (by kernel_rfl) (by kernel_rfl) (by kernel_rfl) (fun _ _ _ h => h) (Or.inl ⟨by rfl, by intro wz hz; obtain ⟨hz0, hz1⟩ := hz; go_simp; with_reducible rfl⟩) (by assumption) ?_
  try simp only [Act.put, List.setIfInBounds_toArray, List.set_cons_zero, List.set_cons_succ]
  refine wpAnyH_ready (rs := [4, 10, 20]) (by kernel_rfl) (by simp) ?_
  refine AllReadyH.cons rfl (fun K hK => ?_) (AllReadyH.cons rfl (fun K hK => ?_) (AllReadyH.cons rfl (fun K hK => ?_) AllReadyH.nil))
  · go_simp
    refine hK.out _ _ ?_ ?_
    · clear hK K
      exact hS
    clear hK K hS
    intro hS
    refine wpAnyH_ready (rs := [10, 20]) (by kernel_rfl) (by simp) ?_
    refine AllReadyH.cons rfl (fun K hK => ?_) (AllReadyH.cons rfl (fun K hK => ?_) AllReadyH.nil)
    · go_simp
      refine hK.out _ _ ?_ ?_
      · clear hK K
        exact ⟨by rw [fw_cell]; exact hS.1, by rw [fw_cell]; exact hS.2⟩
      clear hK K hS
      intro hS
      refine wpAnyH_ready (rs := [11, 20]) (by kernel_rfl) (by simp) ?_
      refine AllReadyH.cons rfl (fun K hK => ?_) (AllReadyH.cons rfl (fun K hK => ?_) AllReadyH.nil)
      · go_simp
        refine hK.out _ _ ?_ ?_
        · clear hK K
          exact ⟨by rw [fw_cell]; exact hS.1, by rw [fw_cell]; exact hS.2⟩
        clear hK K hS
        intro hS
        refine wpAnyH_ready (rs := [20]) (by kernel_rfl) (by simp) ?_
        refine AllReadyH.cons rfl (fun K hK => ?_) AllReadyH.nil
        go_simp
        refine hK.out _ _ ?_ ?_
        · clear hK K
          exact ⟨by rw [fw_cell]; exact hS.1, by rw [fw_cell]; exact hS.2⟩
        clear hK K hS
        intro hS
        refine wpAnyH_ready (rs := [21]) (by kernel_rfl) (by simp) ?_
        refine AllReadyH.cons rfl (fun K hK => ?_) AllReadyH.nil
        go_simp
        refine hK.out _ _ ?_ ?_
        · clear hK K
          exact ⟨by rw [fw_cell]; exact hS.1, by rw [fw_cell]; exact hS.2⟩
        clear hK K hS
        intro hS
        refine wpAnyH_take (i := 22) (v := ?_) rfl (by kernel_rfl) (by kernel_rfl) (by kernel_rfl) (fun _ _ _ h => h) (Or.inl ⟨by rfl, by intro wz hz; obtain ⟨hz0, hz1⟩ := hz; go_simp; with_reducible rfl⟩) (by assumption) ?_
        try simp only [Act.put, List.setIfInBounds_toArray, List.set_cons_zero, List.set_cons_succ]
        refine wpAnyH_take (i := 23) (v := ?_) rfl (by kernel_rfl) (by kernel_rfl) (by kernel_rfl) (fun _ _ _ h => h) (Or.inl ⟨by rfl, by intro wz hz; obtain ⟨hz0, hz1⟩ := hz; go_simp; with_reducible rfl⟩) (by assumption) ?_
        try simp only [Act.put, List.setIfInBounds_toArray, List.set_cons_zero, List.set_cons_succ]
        refine wpAnyH_ready (rs := [24]) (by kernel_rfl) (by simp) ?_
        refine AllReadyH.cons rfl (fun K hK => ?_) AllReadyH.nil
        go_simp
        refine hK.out _ _ ?_ ?_
        · clear hK K
          exact keep2 hS _
        clear hK K hS
        intro hS
        refine wpAnyH_done (by kernel_rfl) ?_ _
        refine NoPanic.normal ?_
        go_wp2_with fail
        go_end0
        exact ⟨rfl, slide_fin HM _ _ _ _ _ _ _ _ _ _ _ _ ⟨_, _, _, _, rfl⟩⟩
      · go_simp
        refine hK.out _ _ ?_ ?_
        · clear hK K
          exact ⟨by rw [fw_cell]; exact hS.1, by rw [fw_cell]; exact hS.2⟩
        clear hK K hS
        intro hS
        refine wpAnyH_ready (rs := [11]) (by kernel_rfl) (by simp) ?_
        refine AllReadyH.cons rfl (fun K hK => ?_) AllReadyH.nil
        go_simp
        refine hK.out _ _ ?_ ?_
        · clear hK K
          exact ⟨by rw [fw_cell]; exact hS.1, by rw [fw_cell]; exact hS.2⟩
        clear hK K hS
        intro hS
        refine wpAnyH_ready (rs := [21]) (by kernel_rfl) (by simp) ?_
        refine AllReadyH.cons rfl (fun K hK => ?_) AllReadyH.nil
        go_simp
        refine hK.out _ _ ?_ ?_
        · clear hK K
          exact ⟨by rw [fw_cell]; exact hS.1, by rw [fw_cell]; exact hS.2⟩
        clear hK K hS
        intro hS
        refine wpAnyH_take (i := 22) (v := ?_) rfl (by kernel_rfl) (by kernel_rfl) (by kernel_rfl) (fun _ _ _ h => h) (Or.inl ⟨by rfl, by intro wz hz; obtain ⟨hz0, hz1⟩ := hz; go_simp; with_reducible rfl⟩) (by assumption) ?_
        try simp only [Act.put, List.setIfInBounds_toArray, List.set_cons_zero, List.set_cons_succ]
        refine wpAnyH_take (i := 23) (v := ?_) rfl (by kernel_rfl) (by kernel_rfl) (by kernel_rfl) (fun _ _ _ h => h) (Or.inl ⟨by rfl, by intro wz hz; obtain ⟨hz0, hz1⟩ := hz; go_simp; with_reducible rfl⟩) (by assumption) ?_
        try simp only [Act.put, List.setIfInBounds_toArray, List.set_cons_zero, List.set_cons_succ]
        refine wpAnyH_ready (rs := [24]) (by kernel_rfl) (by simp) ?_
        refine AllReadyH.cons rfl (fun K hK => ?_) AllReadyH.nil
        go_simp
        refine hK.out _ _ ?_ ?_
        · clear hK K
          exact keep2 hS _
        clear hK K hS
        intro hS
        refine wpAnyH_done (by kernel_rfl) ?_ _
        refine NoPanic.normal ?_
        go_wp2_with fail
        go_end0
        exact ⟨rfl, slide_fin HM _ _ _ _ _ _ _ _ _ _ _ _ ⟨_, _, _, _, rfl⟩⟩
    · go_simp
      refine hK.out _ _ ?_ ?_
      · clear hK K
        exact ⟨by rw [fw_cell]; exact hS.1, by rw [fw_cell]; exact hS.2⟩
      clear hK K hS
      intro hS
      refine wpAnyH_ready (rs := [10]) (by kernel_rfl) (by simp) ?_
      refine AllReadyH.cons rfl (fun K hK => ?_) AllReadyH.nil
      go_simp
      refine hK.out _ _ ?_ ?_
      · clear hK K
        exact ⟨by rw [fw_cell]; exact hS.1, by rw [fw_cell]; exact hS.2⟩
      clear hK K hS
      intro hS
      refine wpAnyH_ready (rs := [11]) (by kernel_rfl) (by simp) ?_
      refine AllReadyH.cons rfl (fun K hK => ?_) AllReadyH.nil
      go_simp
      refine hK.out _ _ ?_ ?_
      · clear hK K
        exact ⟨by rw [fw_cell]; exact hS.1, by rw [fw_cell]; exact hS.2⟩
      clear hK K hS
      intro hS
      refine wpAnyH_ready (rs := [21]) (by kernel_rfl) (by simp) ?_
      refine AllReadyH.cons rfl (fun K hK => ?_) AllReadyH.nil
      go_simp
      refine hK.out _ _ ?_ ?_
      · clear hK K
        exact ⟨by rw [fw_cell]; exact hS.1, by rw [fw_cell]; exact hS.2⟩
      clear hK K hS
      intro hS
      refine wpAnyH_take (i := 22) (v := ?_) rfl (by kernel_rfl) (by kernel_rfl) (by kernel_rfl) (fun _ _ _ h => h) (Or.inl ⟨by rfl, by intro wz hz; obtain ⟨hz0, hz1⟩ := hz; go_simp; with_reducible rfl⟩) (by assumption) ?_
      try simp only [Act.put, List.setIfInBounds_toArray, List.set_cons_zero, List.set_cons_succ]
      refine wpAnyH_take (i := 23) (v := ?_) rfl (by kernel_rfl) (by kernel_rfl) (by kernel_rfl) (fun _ _ _ h => h) (Or.inl ⟨by rfl, by intro wz hz; obtain ⟨hz0, hz1⟩ := hz; go_simp; with_reducible rfl⟩) (by assumption) ?_
      try simp only [Act.put, List.setIfInBounds_toArray, List.set_cons_zero, List.set_cons_succ]
      refine wpAnyH_ready (rs := [24]) (by kernel_rfl) (by simp) ?_
      refine AllReadyH.cons rfl (fun K hK => ?_) AllReadyH.nil
      go_simp
      refine hK.out _ _ ?_ ?_
      · clear hK K
        exact keep2 hS _
      clear hK K hS
      intro hS
      refine wpAnyH_done (by kernel_rfl) ?_ _
      refine NoPanic.normal ?_
      go_wp2_with fail
      go_end0
      exact ⟨rfl, slide_fin HM _ _ _ _ _ _ _ _ _ _ _ _ ⟨_, _, _, _, rfl⟩⟩
  · go_simp
    refine hK.out _ _ ?_ ?_
    · clear hK K
      exact ⟨by rw [fw_cell]; exact hS.1, by rw [fw_cell]; exact hS.2⟩
    clear hK K hS
    intro hS
    refine wpAnyH_ready (rs := [4, 20]) (by kernel_rfl) (by simp) ?_
    refine AllReadyH.cons rfl (fun K hK => ?_) (AllReadyH.cons rfl (fun K hK => ?_) AllReadyH.nil)
    · go_simp
      refine hK.out _ _ ?_ ?_
      · clear hK K
        exact hS
      clear hK K hS
      intro hS
      refine wpAnyH_ready (rs := [11, 20]) (by kernel_rfl) (by simp) ?_
      refine AllReadyH.cons rfl (fun K hK => ?_) (AllReadyH.cons rfl (fun K hK => ?_) AllReadyH.nil)
      · go_simp
        refine hK.out _ _ ?_ ?_
        · clear hK K
          exact ⟨by rw [fw_cell]; exact hS.1, by rw [fw_cell]; exact hS.2⟩
        clear hK K hS
        intro hS
        refine wpAnyH_ready (rs := [20]) (by kernel_rfl) (by simp) ?_
        refine AllReadyH.cons rfl (fun K hK => ?_) AllReadyH.nil
        go_simp
        refine hK.out _ _ ?_ ?_
        · clear hK K
          exact ⟨by rw [fw_cell]; exact hS.1, by rw [fw_cell]; exact hS.2⟩
        clear hK K hS
        intro hS
        refine wpAnyH_ready (rs := [21]) (by kernel_rfl) (by simp) ?_
        refine AllReadyH.cons rfl (fun K hK => ?_) AllReadyH.nil
        go_simp
        refine hK.out _ _ ?_ ?_
        · clear hK K
          exact ⟨by rw [fw_cell]; exact hS.1, by rw [fw_cell]; exact hS.2⟩
        clear hK K hS
        intro hS
        refine wpAnyH_take (i := 22) (v := ?_) rfl (by kernel_rfl) (by kernel_rfl) (by kernel_rfl) (fun _ _ _ h => h) (Or.inl ⟨by rfl, by intro wz hz; obtain ⟨hz0, hz1⟩ := hz; go_simp; with_reducible rfl⟩) (by assumption) ?_
        try simp only [Act.put, List.setIfInBounds_toArray, List.set_cons_zero, List.set_cons_succ]
        refine wpAnyH_take (i := 23) (v := ?_) rfl (by kernel_rfl) (by kernel_rfl) (by kernel_rfl) (fun _ _ _ h => h) (Or.inl ⟨by rfl, by intro wz hz; obtain ⟨hz0, hz1⟩ := hz; go_simp; with_reducible rfl⟩) (by assumption) ?_
        try simp only [Act.put, List.setIfInBounds_toArray, List.set_cons_zero, List.set_cons_succ]
        refine wpAnyH_ready (rs := [24]) (by kernel_rfl) (by simp) ?_
        refine AllReadyH.cons rfl (fun K hK => ?_) AllReadyH.nil
        go_simp
        refine hK.out _ _ ?_ ?_
        · clear hK K
          exact keep2 hS _
        clear hK K hS
        intro hS
        refine wpAnyH_done (by kernel_rfl) ?_ _
        refine NoPanic.normal ?_
        go_wp2_with fail
        go_end0
        exact ⟨rfl, slide_fin HM _ _ _ _ _ _ _ _ _ _ _ _ ⟨_, _, _, _, rfl⟩⟩
      · go_simp
        refine hK.out _ _ ?_ ?_
        · clear hK K
          exact ⟨by rw [fw_cell]; exact hS.1, by rw [fw_cell]; exact hS.2⟩
        clear hK K hS
        intro hS
        refine wpAnyH_ready (rs := [11]) (by kernel_rfl) (by simp) ?_
        refine AllReadyH.cons rfl (fun K hK => ?_) AllReadyH.nil
        go_simp
        refine hK.out _ _ ?_ ?_
        · clear hK K
          exact ⟨by rw [fw_cell]; exact hS.1, by rw [fw_cell]; exact hS.2⟩
        clear hK K hS
        intro hS
        refine wpAnyH_ready (rs := [21]) (by kernel_rfl) (by simp) ?_
        refine AllReadyH.cons rfl (fun K hK => ?_) AllReadyH.nil
        go_simp
        refine hK.out _ _ ?_ ?_
        · clear hK K
          exact ⟨by rw [fw_cell]; exact hS.1, by rw [fw_cell]; exact hS.2⟩
        clear hK K hS
        intro hS
        refine wpAnyH_take (i := 22) (v := ?_) rfl (by kernel_rfl) (by kernel_rfl) (by kernel_rfl) (fun _ _ _ h => h) (Or.inl ⟨by rfl, by intro wz hz; obtain ⟨hz0, hz1⟩ := hz; go_simp; with_reducible rfl⟩) (by assumption) ?_
        try simp only [Act.put, List.setIfInBounds_toArray, List.set_cons_zero, List.set_cons_succ]
        refine wpAnyH_take (i := 23) (v := ?_) rfl (by kernel_rfl) (by kernel_rfl) (by kernel_rfl) (fun _ _ _ h => h) (Or.inl ⟨by rfl, by intro wz hz; obtain ⟨hz0, hz1⟩ := hz; go_simp; with_reducible rfl⟩) (by assumption) ?_
        try simp only [Act.put, List.setIfInBounds_toArray, List.set_cons_zero, List.set_cons_succ]
        refine wpAnyH_ready (rs := [24]) (by kernel_rfl) (by simp) ?_
        refine AllReadyH.cons rfl (fun K hK => ?_) AllReadyH.nil
        go_simp
        refine hK.out _ _ ?_ ?_
        · clear hK K
          exact keep2 hS _
        clear hK K hS
        intro hS
        refine wpAnyH_done (by kernel_rfl) ?_ _
        refine NoPanic.normal ?_
        go_wp2_with fail
        go_end0
        exact ⟨rfl, slide_fin HM _ _ _ _ _ _ _ _ _ _ _ _ ⟨_, _, _, _, rfl⟩⟩
    · go_simp
      refine hK.out _ _ ?_ ?_
      · clear hK K
        exact ⟨by rw [fw_cell]; exact hS.1, by rw [fw_cell]; exact hS.2⟩
      clear hK K hS
      intro hS
      refine wpAnyH_ready (rs := [4]) (by kernel_rfl) (by simp) ?_
      refine AllReadyH.cons rfl (fun K hK => ?_) AllReadyH.nil
      go_simp
      refine hK.out _ _ ?_ ?_
      · clear hK K
        exact hS
      clear hK K hS
      intro hS
      refine wpAnyH_ready (rs := [11]) (by kernel_rfl) (by simp) ?_
      refine AllReadyH.cons rfl (fun K hK => ?_) AllReadyH.nil
      go_simp
      refine hK.out _ _ ?_ ?_
      · clear hK K
        exact ⟨by rw [fw_cell]; exact hS.1, by rw [fw_cell]; exact hS.2⟩
      clear hK K hS
      intro hS
      refine wpAnyH_ready (rs := [21]) (by kernel_rfl) (by simp) ?_
      refine AllReadyH.cons rfl (fun K hK => ?_) AllReadyH.nil
      go_simp
      refine hK.out _ _ ?_ ?_
      · clear hK K
        exact ⟨by rw [fw_cell]; exact hS.1, by rw [fw_cell]; exact hS.2⟩
      clear hK K hS
      intro hS
      refine wpAnyH_take (i := 22) (v := ?_) rfl (by kernel_rfl) (by kernel_rfl) (by kernel_rfl) (fun _ _ _ h => h) (Or.inl ⟨by rfl, by intro wz hz; obtain ⟨hz0, hz1⟩ := hz; go_simp; with_reducible rfl⟩) (by assumption) ?_
      try simp only [Act.put, List.setIfInBounds_toArray, List.set_cons_zero, List.set_cons_succ]
      refine wpAnyH_take (i := 23) (v := ?_) rfl (by kernel_rfl) (by kernel_rfl) (by kernel_rfl) (fun _ _ _ h => h) (Or.inl ⟨by rfl, by intro wz hz; obtain ⟨hz0, hz1⟩ := hz; go_simp; with_reducible rfl⟩) (by assumption) ?_
      try simp only [Act.put, List.setIfInBounds_toArray, List.set_cons_zero, List.set_cons_succ]
      refine wpAnyH_ready (rs := [24]) (by kernel_rfl) (by simp) ?_
      refine AllReadyH.cons rfl (fun K hK => ?_) AllReadyH.nil
      go_simp
      refine hK.out _ _ ?_ ?_
      · clear hK K
        exact keep2 hS _
      clear hK K hS
      intro hS
      refine wpAnyH_done (by kernel_rfl) ?_ _
      refine NoPanic.normal ?_
      go_wp2_with fail
      go_end0
      exact ⟨rfl, slide_fin HM _ _ _ _ _ _ _ _ _ _ _ _ ⟨_, _, _, _, rfl⟩⟩
  · go_simp
    refine hK.out _ _ ?_ ?_
    · clear hK K
      exact ⟨by rw [fw_cell]; exact hS.1, by rw [fw_cell]; exact hS.2⟩
    clear hK K hS
    intro hS
    refine wpAnyH_ready (rs := [4, 10]) (by kernel_rfl) (by simp) ?_
    refine AllReadyH.cons rfl (fun K hK => ?_) (AllReadyH.cons rfl (fun K hK => ?_) AllReadyH.nil)
    · go_simp
      refine hK.out _ _ ?_ ?_
      · clear hK K
        exact hS
      clear hK K hS
      intro hS
      refine wpAnyH_ready (rs := [10]) (by kernel_rfl) (by simp) ?_
      refine AllReadyH.cons rfl (fun K hK => ?_) AllReadyH.nil
      go_simp
      refine hK.out _ _ ?_ ?_
      · clear hK K
        exact ⟨by rw [fw_cell]; exact hS.1, by rw [fw_cell]; exact hS.2⟩
      clear hK K hS
      intro hS
      refine wpAnyH_ready (rs := [11]) (by kernel_rfl) (by simp) ?_
      refine AllReadyH.cons rfl (fun K hK => ?_) AllReadyH.nil
      go_simp
      refine hK.out _ _ ?_ ?_
      · clear hK K
        exact ⟨by rw [fw_cell]; exact hS.1, by rw [fw_cell]; exact hS.2⟩
      clear hK K hS
      intro hS
      refine wpAnyH_ready (rs := [21]) (by kernel_rfl) (by simp) ?_
      refine AllReadyH.cons rfl (fun K hK => ?_) AllReadyH.nil
      go_simp
      refine hK.out _ _ ?_ ?_
      · clear hK K
        exact ⟨by rw [fw_cell]; exact hS.1, by rw [fw_cell]; exact hS.2⟩
      clear hK K hS
      intro hS
      refine wpAnyH_take (i := 22) (v := ?_) rfl (by kernel_rfl) (by kernel_rfl) (by kernel_rfl) (fun _ _ _ h => h) (Or.inl ⟨by rfl, by intro wz hz; obtain ⟨hz0, hz1⟩ := hz; go_simp; with_reducible rfl⟩) (by assumption) ?_
      try simp only [Act.put, List.setIfInBounds_toArray, List.set_cons_zero, List.set_cons_succ]
      refine wpAnyH_take (i := 23) (v := ?_) rfl (by kernel_rfl) (by kernel_rfl) (by kernel_rfl) (fun _ _ _ h => h) (Or.inl ⟨by rfl, by intro wz hz; obtain ⟨hz0, hz1⟩ := hz; go_simp; with_reducible rfl⟩) (by assumption) ?_
      try simp only [Act.put, List.setIfInBounds_toArray, List.set_cons_zero, List.set_cons_succ]
      refine wpAnyH_ready (rs := [24]) (by kernel_rfl) (by simp) ?_
      refine AllReadyH.cons rfl (fun K hK => ?_) AllReadyH.nil
      go_simp
      refine hK.out _ _ ?_ ?_
      · clear hK K
        exact keep2 hS _
      clear hK K hS
      intro hS
      refine wpAnyH_done (by kernel_rfl) ?_ _
      refine NoPanic.normal ?_
      go_wp2_with fail
      go_end0
      exact ⟨rfl, slide_fin HM _ _ _ _ _ _ _ _ _ _ _ _ ⟨_, _, _, _, rfl⟩⟩
    · go_simp
      refine hK.out _ _ ?_ ?_
      · clear hK K
        exact ⟨by rw [fw_cell]; exact hS.1, by rw [fw_cell]; exact hS.2⟩
      clear hK K hS
      intro hS
      refine wpAnyH_ready (rs := [4]) (by kernel_rfl) (by simp) ?_
      refine AllReadyH.cons rfl (fun K hK => ?_) AllReadyH.nil
      go_simp
      refine hK.out _ _ ?_ ?_
      · clear hK K
        exact hS
      clear hK K hS
      intro hS
      refine wpAnyH_ready (rs := [11]) (by kernel_rfl) (by simp) ?_
      refine AllReadyH.cons rfl (fun K hK => ?_) AllReadyH.nil
      go_simp
      refine hK.out _ _ ?_ ?_
      · clear hK K
        exact ⟨by rw [fw_cell]; exact hS.1, by rw [fw_cell]; exact hS.2⟩
      clear hK K hS
      intro hS
      refine wpAnyH_ready (rs := [21]) (by kernel_rfl) (by simp) ?_
      refine AllReadyH.cons rfl (fun K hK => ?_) AllReadyH.nil
      go_simp
      refine hK.out _ _ ?_ ?_
      · clear hK K
        exact ⟨by rw [fw_cell]; exact hS.1, by rw [fw_cell]; exact hS.2⟩
      clear hK K hS
      intro hS
      refine wpAnyH_take (i := 22) (v := ?_) rfl (by kernel_rfl) (by kernel_rfl) (by kernel_rfl) (fun _ _ _ h => h) (Or.inl ⟨by rfl, by intro wz hz; obtain ⟨hz0, hz1⟩ := hz; go_simp; with_reducible rfl⟩) (by assumption) ?_
      try simp only [Act.put, List.setIfInBounds_toArray, List.set_cons_zero, List.set_cons_succ]
      refine wpAnyH_take (i := 23) (v := ?_) rfl (by kernel_rfl) (by kernel_rfl) (by kernel_rfl) (fun _ _ _ h => h) (Or.inl ⟨by rfl, by intro wz hz; obtain ⟨hz0, hz1⟩ := hz; go_simp; with_reducible rfl⟩) (by assumption) ?_
      try simp only [Act.put, List.setIfInBounds_toArray, List.set_cons_zero, List.set_cons_succ]
      refine wpAnyH_ready (rs := [24]) (by kernel_rfl) (by simp) ?_
      refine AllReadyH.cons rfl (fun K hK => ?_) AllReadyH.nil
      go_simp
      refine hK.out _ _ ?_ ?_
      · clear hK K
        exact keep2 hS _
      clear hK K hS
      intro hS
      refine wpAnyH_done (by kernel_rfl) ?_ _
      refine NoPanic.normal ?_
      go_wp2_with fail
      go_end0
      exact ⟨rfl, slide_fin HM _ _ _ _ _ _ _ _ _ _ _ _ ⟨_, _, _, _, rfl⟩⟩

/-- What sliding does to the fields. -/
def Slid (s l b f s2 b2 : Nat) : Prop :=
  (leqF f s = true ∧ s2 = s ∧ b2 = b) ∨ (leqF f s = false ∧ geqF f l = true ∧ s2 = f ∧ b2 = 0) ∨
  (leqF f s = false ∧ geqF f l = false ∧ s2 = f ∧ ∃ wA wB wC wD : World, b2 = fv .quo (fv .mul b (fv .sub l f wA) wB) (fv .sub l s wC) wD)

theorem slide_any (s l b n f B : Nat) (w : World) (hM : Meter w B s l b) (hf : fv .sub n 4626322717216342016 w = f) :
    Calls Try.prog 24 #[.pointer (some ⟨B, 0, none⟩), .float .f64 n] w fun e w' => e = .returned (.tuple #[]) ∧ ∃ s2 b2, Slid s l b f s2 b2 ∧ Meter w' B s2 l b2 ∧ Below B w w' := by
  have hM1 : Meter (fw .sub n 4626322717216342016 w) B s l b := hM.fw _ _ _
  have hb1 : Below B w (fw .sub n 4626322717216342016 w) := below_fw (Below.refl _ _) _ _ _
  cases h1 : leqF f s with
  | true =>
    refine (slide_stay s l b n f B w _ hM1 hf rfl h1).mono fun e w' ⟨he, hw⟩ => ⟨he, s, b, .inl ⟨h1, rfl, rfl⟩, ?_, ?_⟩
    · rw [hw]; exact hM1
    · rw [hw]; exact hb1
  | false =>
    cases h2 : geqF f l with
    | true =>
      refine (slide_past s l b n f B w _ hM1 hf rfl h1 h2).mono fun e w' ⟨he, hw⟩ => ⟨he, f, 0, .inr (.inl ⟨h1, h2, rfl, rfl⟩), ?_, ?_⟩
      · rw [hw]; exact hM1.slid f 0
      · rw [hw]; exact Below.setCell (p := ⟨B, 0, none⟩) (Below.setCell (p := ⟨B, 2, none⟩) hb1 (Nat.le_refl B) _) (Nat.le_refl B) _
    | false =>
      refine (slide_in s l b n f B w _ hM1 hf rfl h1 h2).mono fun e w' ⟨he, R, wA, wB, wC, wD, hR, hm, hb⟩ => ⟨he, f, R, .inr (.inr ⟨h1, h2, rfl, wA, wB, wC, wD, hR⟩), hm, hb1.trans hb⟩

set_option maxHeartbeats 400000 in
theorem zzSlide_any (s l b n f B : Nat) (w : World) (hM : Meter w B s l b) (hf : fv .sub n 4626322717216342016 w = f) :
    Calls Try.prog 19 #[.pointer (some ⟨B, 0, none⟩), .float .f64 n] w fun e w' => e = .returned (.tuple #[]) ∧ ∃ s2 b2, Slid s l b f s2 b2 ∧ Meter w' B s2 l b2 ∧ Below B w w' := by
  have hc := hide (slide_any s l b n f B w hM hf)
  clear hM hf
  go_enter Try.func19, Try.ntmps19
  go_wp2_with fail
  refine hc.out.mono ?_
  rintro e w' ⟨rfl, h⟩
  have H := hide h
  clear h hc
  go_wp2_with fail
  go_end0
  exact ⟨rfl, H.out⟩
end Go.Proofs.Qxb6602998a
