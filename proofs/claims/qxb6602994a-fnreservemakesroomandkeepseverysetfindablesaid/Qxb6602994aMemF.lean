/- The walks of seat b6602994a: probesReach. -/
import Derived.Test.Qxb6602994aMemE
namespace Go.Proofs.Qxb6602994a.Mem
open Go.RowKit Tab
set_option linter.unusedVariables false

theorem runs_step {f : Nat → Int} {R : Nat → P} {fr z t : Nat} (hz : 0 < z) (ht1 : 1 ≤ t) (htz : t ≤ z) (hf : (R fr).2 = 0) (hfz : fr < z)
    (h : ∀ s, s < t → f ((fr + s) % z) = runF R fr z s) : ∀ s, s < t + 1 → updI f ((fr + t) % z) (runF R fr z t) ((fr + s) % z) = runF R fr z s := by
  intro s hs
  unfold updI
  by_cases e : s = t
  · subst e; rw [if_pos rfl]
  · by_cases e2 : (fr + s) % z = (fr + t) % z
    · rw [if_pos e2]
      by_cases e3 : t = z
      · subst e3
        have h0 : s = 0 := by
          rw [Nat.add_mod_right] at e2
          exact (add_mod_lt_inj (a := fr) (x := s) (y := 0) (by omega) hz (by rw [e2, Nat.add_zero]))
        subst h0
        cases t with
        | zero => omega
        | succ t =>
          have : (fr + (t + 1)) % (t + 1) = fr := by rw [Nat.add_mod_right]; exact Nat.mod_eq_of_lt hfz
          simp only [runF, this, hf, if_true]
      · exact absurd (add_mod_lt_inj (a := fr) (x := s) (y := t) (by omega) (by omega) e2) e
    · rw [if_neg e2]; exact h s (by omega)

theorem mask_sum {z e : Nat} (hz : z = 2 ^ e) (he : e ≤ 18) (x : Nat) : bits .and .i64 (x : Int) ((z : Int) - 1) = ((x % z : Nat) : Int) := by
  have := and_mask_i64 (x : Int) e (by omega)
  rw [← hz] at this
  rw [this]; exact_mod_cast rfl

set_option maxRecDepth 100000 in
set_option maxHeartbeats 4000000 in
theorem probes_any (oh op z e : Nat) (S R : Nat → P) (m : Nat) (w : World) (hz : z = 2 ^ e) (he : e ≤ 18) (hz0 : 0 < z) (hzm : z ≤ 262144) (hT : Table S m z R) (hlen : (tkL R z).length < z)
    (hh : Ints .u64 w oh z (fun i => (R i).1)) (hp : Ints .i64 w op z (fun i => (R i).2)) (hoh : oh < w.heap.size) (hop : op < w.heap.size) :
    Calls Try.prog 27 #[.slice (some ⟨oh, 0, none⟩) z z, .slice (some ⟨op, 0, none⟩) z z] w fun e w' => e = .returned (.bool true) ∧ Below w.heap.size w w' := by
  have HZ := hide hz
  have HT := hide hT
  have HLen := hide hlen
  clear hz hT hlen
  have hmk := fun wx => make42 z (by omega) wx
  have HRow := hide (made_ints w z .i64 3)
  have HB1 : Hid (Below w.heap.size w (w.alloc (.cells (madeCells #[.int .i64 0] z) 3))) := hide ((Below.refl _ _).alloc (Nat.le_refl _) _)
  go_enter Try.func27, Try.ntmps27
  go_wp2
  go_loop [6, 7] (fun f v => f = .int .i64 (-1) ∧ ∃ j : Nat, j ≤ z ∧ v = .int .i64 j ∧ Hid (∀ i, i < j → (R i).2 ≠ 0)) (fun _ v => z - (intOf v).toNat)
  case atStart => exact ⟨rfl, 0, Nat.zero_le _, rfl, hide (fun i h => by omega)⟩
  case round =>
    obtain ⟨rfl, j, hj, rfl, HA⟩ := hrel
    by_cases hlt : j < z
    · have q := hp j hlt
      have i1 : (j : Int) < (z : Int) := by omega
      have i0 : (0 : Int) ≤ (j : Int) := by omega
      by_cases hf : (R j).2 = 0
      · have hf' : ((R j).2 == 0) = true := by simp [hf]
        have HF := hide hf
        clear hf
        have hd0 : decide ((j : Int) < 0) = false := decide_eq_false (by omega)
        go_upto_region 11 with fail
        generalize (w.alloc (.cells (madeCells #[.int .i64 0] z) 3)) = w1 at HRow HB1 ⊢
        obtain ⟨fr, hfr⟩ : ∃ fr, j = fr := ⟨_, rfl⟩
        subst hfr
        clear HA i1 i0 hj hmk hf' hd0
        go_wp2
        go_loopw [9] (fun v wr => ∃ (t : Nat) (f : Nat → Int), 1 ≤ t ∧ t ≤ z + 1 ∧ v = .int .i64 t ∧ wr.rowIs w.heap.size 3 z (iv .i64 f) ∧ Hid (∀ s, s < t → f ((j + s) % z) = runF R j z s) ∧ Below w.heap.size w wr) (fun v _ => z + 1 - (intOf v).toNat)
        case atStart => exact ⟨1, fun _ => 0, by omega, by omega, rfl, HRow.out, hide (fun s hs => by (have : s = 0 := by omega); subst this; rfl), HB1.out⟩
        case round =>
          clear HRow HB1 q
          obtain ⟨t, f, ht1, htz, rfl, hrow, HV, hnx⟩ := hrel
          by_cases hle : t ≤ z
          · have HR := hide hrow
            obtain ⟨J, HJ⟩ : ∃ J, Hid ((j + t) % z = J) := ⟨_, hide rfl⟩
            obtain ⟨K, HK⟩ : ∃ K, Hid ((j + (t - 1)) % z = K) := ⟨_, hide rfl⟩
            have hJ : J < z := by rw [← HJ.out]; exact Nat.mod_lt _ hz0
            have hK : K < z := by rw [← HK.out]; exact Nat.mod_lt _ hz0
            have b1 : bits .and .i64 ((j : Int) + (t : Int)) ((z : Int) - 1) = (J : Int) := by
              rw [← HJ.out, ← mask_sum HZ.out he]; norm_cast
            have b2 : bits .and .i64 ((j : Int) + (t : Int) - 1) ((z : Int) - 1) = (K : Int) := by
              rw [← HK.out, ← mask_sum HZ.out he]; congr 1; omega
            have q := (hp.below hnx (fun _ => hop)) J hJ
            have d0 := hrow.cell hJ
            have d1 := hrow.cell hK
            have g0 := hrow.frozen J
            have i0 : (0 : Int) ≤ (J : Int) := by omega
            have i1 : (J : Int) < (z : Int) := by omega
            have k0 : (0 : Int) ≤ (K : Int) := by omega
            have k1 : (K : Int) < (z : Int) := by omega
            have hv : f K = runF R j z (t - 1) := by rw [← HK.out]; exact HV.out _ (by omega)
            have hvb := runF_le R j z (t - 1)
            rw [show iv .i64 f K = .int .i64 (runF R j z (t - 1) : Nat) from by rw [← hv]; rfl] at d1
            clear hv hrow
            by_cases hf : (R J).2 = 0
            · have hf' : ((R J).2 == 0) = true := by simp [hf]
              have HW : Hid (runF R j z t = 0) := hide (by
                cases t with
                | zero => omega
                | succ t => simp only [runF, HJ.out, hf, if_true])
              clear hf
              go_wp2
              go_roundw
              case rel =>
                refine ⟨t + 1, updI f J 0, by omega, by omega, by go_num, rowI_set HR.out J 0, hide ?_, hnx.setCell (Nat.le_refl _) _⟩
                have := runs_step hz0 ht1 hle HF.out hlt HV.out
                rw [HW.out, HJ.out] at this
                exact this
              case measure => simp [intOf]; omega
            · have hf' : ((R J).2 == 0) = false := by simp [hf]
              have HW : Hid (runF R j z t = runF R j z (t - 1) + 1) := hide (by
                cases t with
                | zero => omega
                | succ t => simp only [runF, HJ.out, hf, if_false, Nat.add_sub_cancel])
              clear hf
              go_wp2
              go_roundw
              case rel =>
                refine ⟨t + 1, updI f J (runF R j z t : Nat), by omega, by omega, by go_num, ?_, hide ?_, hnx.setCell (Nat.le_refl _) _⟩
                · have := rowI_set HR.out J (runF R j z t : Nat)
                  rw [HW.out] at this ⊢
                  exact this
                · have := runs_step hz0 ht1 hle HF.out hlt HV.out
                  rw [HJ.out] at this
                  exact this
              case measure => simp [intOf]; omega
          · have HV2 : Hid (∀ s, s < z → f ((j + s) % z) = runF R j z s) := hide (fun s hs => HV.out s (by omega))
            clear HV
            have hcell : ∀ i, i < z → wr.cell? ⟨w.heap.size, i, none⟩ = some (.int .i64 (f i)) := fun i hi => hrow.cell hi
            have hh2 := hh.below hnx (fun _ => hoh)
            have hp2 := hp.below hnx (fun _ => hop)
            clear hrow hh hp
            go_wp2
            go_loop [13] (fun v => ∃ i : Nat, i ≤ z ∧ v = .int .i64 i) (fun v => z - (intOf v).toNat)
            case atStart => exact ⟨0, Nat.zero_le _, rfl⟩
            case round =>
              obtain ⟨i, hi, rfl⟩ := hrel
              by_cases hlt2 : i < z
              · have q0 := hh2 i hlt2
                have q1 := hp2 i hlt2
                have i0 : (0 : Int) ≤ (i : Int) := by omega
                have i1 : (i : Int) < (z : Int) := by omega
                by_cases hf : (R i).2 = 0
                · have hf' : ((R i).2 == 0) = true := by simp [hf]
                  clear hf
                  go_wp2
                  go_round
                  case rel => exact ⟨i + 1, by omega, by go_num⟩
                  case measure => simp [intOf]; omega
                · have hf' : ((R i).2 == 0) = false := by simp [hf]
                  obtain ⟨hm, HHm⟩ : ∃ hm, Hid (home z (R i).1 = hm) := ⟨_, hide rfl⟩
                  have hhm : hm < z := by rw [← HHm.out]; exact home_lt hz0 _
                  have hbits : bits .and .u64 (R i).1 ((z : Int) - 1) = (hm : Int) := by
                    have := and_mask_u64 (R i).1 e (by omega)
                    rw [← HZ.out] at this
                    rw [this, ← HHm.out]
                    unfold home
                    have := Int.emod_nonneg (R i).1 (by omega : (z : Int) ≠ 0)
                    omega
                  obtain ⟨D, HD1, hD2, HD3⟩ : ∃ D : Nat, Hid (dist z i (R i).1 = D) ∧ D < z ∧ True := by
                    obtain ⟨D, a, b, _⟩ := dist_spec hlt2 (R i).1
                    exact ⟨D, hide a, b, trivial⟩
                  have hbd : bits .and .i64 ((i : Int) - (hm : Int)) ((z : Int) - 1) = (D : Int) := by
                    have := and_mask_i64 ((i : Int) - (hm : Int)) e (by omega)
                    rw [← HZ.out] at this
                    rw [this, ← HHm.out, ← HD1.out]; rfl
                  obtain ⟨s, hs, hse⟩ := step_of hlt hlt2
                  have hrun := dist_lt_run HT.out hlt HF.out hlt2 hf hse
                  rw [HD1.out] at hrun
                  have d0 := hcell i hlt2
                  rw [show f i = (runF R j z s : Nat) from by rw [← HV2.out s hs, hse]] at d0
                  have hge : ¬ ((runF R j z s : Int) ≤ (D : Int)) := by omega
                  have HSe := hide hse
                  clear hf hse hcell
                  go_wp2
                  go_round
                  case rel => exact ⟨i + 1, by omega, by go_num⟩
                  case measure => simp [intOf]; omega
              · go_wp2
                exact bodyPost_ret (by simp [results, Try.results27, go_sem]) rfl ⟨rfl, hnx⟩
      · have hf' : ((R j).2 == 0) = false := by simp [hf]
        have HA1 : Hid (∀ i, i < j + 1 → (R i).2 ≠ 0) := hide (fun i hi => by
          by_cases e : i = j
          · subst e; exact hf
          · exact HA.out i (by omega))
        clear hf
        go_wp2
        go_round
        case rel => exact ⟨rfl, j + 1, by omega, by go_num, HA1⟩
        case measure => simp [intOf]; omega
    · exfalso
      have := tkL_full (F := R) (n := z) (fun i hi => HA.out i (by omega))
      have := HLen.out
      omega
end Go.Proofs.Qxb6602994a.Mem
