/- The walks of seat b6602994a: reserve, where the table grows. -/
import Derived.Test.Qxb6602994aMemC
namespace Go.Proofs.Qxb6602994a.Mem
open Go.RowKit Tab
set_option linter.unusedVariables false

/-- The size of the new table. -/
structure Sized (z : Nat) (need : Int) : Prop where
  pow : ∃ e, e ≤ 18 ∧ z = 2 ^ e
  lo : 8 ≤ z
  hi : z ≤ 262144
  fits : need ≤ z
  least : z = 8 ∨ (z : Int) < 2 * need

theorem wrapD {z hm D : Nat} (h1 : hm < z) (h2 : D < z) : ((hm + D) % z + z - hm) % z = D := by
  by_cases h : hm + D < z
  · rw [Nat.mod_eq_of_lt h, show hm + D + z - hm = D + z from by omega, Nat.add_mod_right, Nat.mod_eq_of_lt h2]
  · have e : (hm + D) % z = hm + D - z := by rw [Nat.mod_eq_sub_mod (by omega), Nat.mod_eq_of_lt (by omega)]
    rw [e, show hm + D - z + z - hm = D from by omega, Nat.mod_eq_of_lt h2]

theorem Ix.alloc {w : World} {X : Nat} {sl : Value} {n sink : Int} (h : Ix w X sl n sink) (hX : X < w.heap.size) (o : Obj) : Ix (w.alloc o) X sl n sink :=
  ⟨by rw [World.cell?_alloc_past _ _ _ hX]; exact h.c0, by rw [World.cell?_alloc_past _ _ _ hX]; exact h.c1, by rw [World.cell?_alloc_past _ _ _ hX]; exact h.c2, by rw [World.frozen?_alloc_past _ _ _ hX]; exact h.f0⟩
theorem cell_far {w : World} {p a : Addr} (h : p.block ≠ a.block) (v : Value) : (w.setCell p v).cell? a = w.cell? a := World.cell?_setCell_far w p a v h
theorem Ix.setOther {w : World} {X : Nat} {sl : Value} {n sink : Int} (h : Ix w X sl n sink) {p : Addr} (hp : p.block ≠ X) (v : Value) : Ix (w.setCell p v) X sl n sink :=
  ⟨by rw [cell_far hp]; exact h.c0, by rw [cell_far hp]; exact h.c1, by rw [cell_far hp]; exact h.c2, by rw [World.frozen?_setCell]; exact h.f0⟩
theorem Ix.drew {w : World} {X : Nat} {sl : Value} {n sink : Int} (h : Ix w X sl n sink) : Ix w.drew X sl n sink := ⟨h.c0, h.c1, h.c2, h.f0⟩
theorem ix_stored {w : World} {X : Nat} {sl sl' : Value} {n sink : Int} (c0 : w.cell? ⟨X, 0, none⟩ = some sl) (c1 : w.cell? ⟨X, 1, none⟩ = some (.int .i64 n)) (c2 : w.cell? ⟨X, 2, none⟩ = some (.int .i64 sink))
    (f0 : w.frozen? ⟨X, 0, none⟩ = false) (hX : X < w.heap.size) (o : Obj) : Ix ((w.setCell ⟨X, 0, none⟩ sl').alloc o) X sl' n sink := by
  refine Ix.alloc ⟨World.cell?_setCell_same _ _ _ c0, ?_, ?_, ?_⟩ (by rw [World.size_setCell]; exact hX) o
  · rw [World.cell?_setCell_other (h := fun h => by injection h with _ h2; cases h2)]; exact c1
  · rw [World.cell?_setCell_other (h := fun h => by injection h with _ h2; cases h2)]; exact c2
  · rw [World.frozen?_setCell]; exact f0

set_option maxRecDepth 100000 in
set_option maxHeartbeats 4000000 in
theorem reserve_grow (X bo : Nat) (asl : Option Addr) (m csl : Nat) (n sink k : Int) (S : Nat → P) (w : World) (hI : Ix w X (.slice asl m csl) n sink) (hX : X < w.heap.size)
    (ha : 0 < m → asl = some ⟨bo, 0, none⟩) (hp : Pairs w bo 0 m S) (hb : 0 < m → bo < w.heap.size ∧ bo ≠ X)
    (hn0 : 0 ≤ n) (hn1 : 2 * n ≤ m) (hk0 : -65536 ≤ k) (hk1 : k ≤ 65536) (hm : m ≤ 65536) (hT : n = (tkL S m).length) (h : (m : Int) < 2 * (n + k)) :
    Calls Try.prog 35 #[.pointer (some ⟨X, 0, none⟩), .int .i64 k] w fun e w' => e = .returned (.tuple #[]) ∧
      ∃ (z Y : Nat) (R : Nat → P), Sized z (2 * (n + k)) ∧ Table S m z R ∧ w'.rowIs Y 64 (z * 2) (pv R) ∧ Y ≠ X ∧ Ix w' X (.slice (some ⟨Y, 0, none⟩) z z) n sink ∧ Apart X w w' := by
  obtain ⟨c0, c1, c2, f0⟩ := hI
  have HT := hide hT
  clear hT
  have hd22 : decide (2 * (n + k) ≤ (m : Int)) = false := decide_eq_false (by omega)
  go_enter Try.func35, Try.ntmps35
  go_wp2
  go_quiet (fail)
  have HA : Hid (Apart X w (w.drewN nq)) := hide ⟨rfl, rfl, rfl, Nat.le_refl _, fun _ _ _ => rfl⟩
  have c0q : (w.drewN nq).cell? ⟨X, 0, none⟩ = some (.slice asl m csl) := c0
  have c1q : (w.drewN nq).cell? ⟨X, 1, none⟩ = some (.int .i64 n) := c1
  have c2q : (w.drewN nq).cell? ⟨X, 2, none⟩ = some (.int .i64 sink) := c2
  have f0q : (w.drewN nq).frozen? ⟨X, 0, none⟩ = false := f0
  have hXq : X < (w.drewN nq).heap.size := hX
  have hsq : (w.drewN nq).heap.size = w.heap.size := rfl
  have HSQ := hide hsq
  clear c0 c1 c2 f0 hsq
  generalize w.drewN nq = wq at HA c0q c1q c2q f0q hXq HSQ ⊢
  go_wp2
  go_loop [4] (fun v => ∃ (z e : Nat), v = .int .i64 z ∧ Hid (z = 2 ^ e) ∧ e ≤ 18 ∧ 8 ≤ z ∧ z ≤ 262144 ∧ Hid (z = 8 ∨ (z : Int) < 2 * (2 * (n + k)))) (fun v => 262144 - (intOf v).toNat)
  case atStart => exact ⟨8, 3, rfl, hide rfl, by omega, by omega, by omega, hide (.inl rfl)⟩
  case round =>
    obtain ⟨z, e, rfl, HZ, he, hz8, hzm, HL⟩ := hrel
    by_cases hlt : (z : Int) < 2 * (n + k)
    · have he2 : e + 1 ≤ 18 := by
        by_cases h18 : e = 18
        · have := HZ.out; rw [h18] at this; omega
        · omega
      have hzz : z * 2 ≤ 262144 := by
        have h1 := HZ.out
        have h2 : 2 ^ (e + 1) ≤ 2 ^ 18 := Nat.pow_le_pow_right (by omega) he2
        rw [Nat.pow_succ, ← h1] at h2; omega
      go_wp2
      go_round
      case rel => exact ⟨z * 2, e + 1, by go_num, hide (by rw [HZ.out, Nat.pow_succ]), he2, by omega, hzz, hide (.inr (by omega))⟩
      case measure => simp [intOf]; omega
    · have hmk := fun wx => make60 z (by omega) wx
      have HS : Hid (Sized z (2 * (n + k))) := hide ⟨⟨e, he, HZ.out⟩, hz8, hzm, by omega, HL.out⟩
      go_upto_region 7 with fail
      have hYX : wq.heap.size ≠ X := by omega
      have HRow : Hid (((wq.setCell ⟨X, 0, none⟩ (.slice (some ⟨wq.heap.size, 0, none⟩) z z)).alloc (.cells (madeCells #[.int .u64 0, .int .i64 0] (z * 2)) 64)).rowIs wq.heap.size 64 (z * 2) (pv fun _ => (0, 0))) := hide (by
        have := made_pairs (wq.setCell ⟨X, 0, none⟩ (.slice (some ⟨wq.heap.size, 0, none⟩) z z)) z 64
        rwa [World.size_setCell] at this)
      have HIx : Hid (Ix ((wq.setCell ⟨X, 0, none⟩ (.slice (some ⟨wq.heap.size, 0, none⟩) z z)).alloc (.cells (madeCells #[.int .u64 0, .int .i64 0] (z * 2)) 64)) X (.slice (some ⟨wq.heap.size, 0, none⟩) z z) n sink) := hide (ix_stored c0q c1q c2q f0q hXq _)
      have HAp : Hid (Apart X w ((wq.setCell ⟨X, 0, none⟩ (.slice (some ⟨wq.heap.size, 0, none⟩) z z)).alloc (.cells (madeCells #[.int .u64 0, .int .i64 0] (z * 2)) 64))) := hide ((HA.out.setCell (.inl rfl) _).alloc _)
      obtain ⟨Y, HY⟩ : ∃ Y, Hid (wq.heap.size = Y) := ⟨_, hide rfl⟩
      have hwY : w.heap.size ≤ Y := by rw [← HY.out, HSQ.out]; exact Nat.le_refl _
      rw [HY.out] at HRow HIx HAp hYX ⊢
      generalize ((wq.setCell ⟨X, 0, none⟩ (.slice (some ⟨Y, 0, none⟩) z z)).alloc (.cells (madeCells #[.int .u64 0, .int .i64 0] (z * 2)) 64)) = w0 at HRow HIx HAp ⊢
      clear c0q c1q c2q f0q hXq HSQ HA HL hmk HY
      go_wp2
      go_loopw [48] (fun v wr => ∃ (j : Nat) (R : Nat → P), j ≤ m ∧ v = .int .i64 j ∧ Hid (Table S j z R) ∧ wr.rowIs Y 64 (z * 2) (pv R) ∧ Ix wr X (.slice (some ⟨Y, 0, none⟩) z z) n sink ∧ Apart X w wr) (fun v _ => m - (intOf v).toNat)
      case atStart => exact ⟨0, _, Nat.zero_le _, rfl, hide (table_new S z), HRow.out, HIx.out, HAp.out⟩
      case round =>
        clear HRow HIx HAp
        obtain ⟨j, R, hj, rfl, HTb, hrow, hix, hap⟩ := hrel
        by_cases hlt2 : j < m
        · obtain rfl := ha (by omega)
          obtain ⟨q0, q1⟩ := (hap.pairs hp hb) j hlt2
          rw [Nat.zero_add] at q0 q1
          have i1 : (j : Int) < (m : Int) := by omega
          have i0 : (0 : Int) ≤ (j : Int) := by omega
          obtain ⟨x0, x1, x2, xf⟩ := hix
          have hXw : X < wr.heap.size := by have := hap.size; omega
          have hYw := hrow.lt
          have HRow := hide hrow
          clear hrow
          by_cases hz0 : (S j).2 = 0
          · have hz0' : ((S j).2 == 0) = true := by simp [hz0]
            have HTn := hide (table_skip HTb.out hz0)
            clear hz0
            go_wp2
            go_roundw
            case rel => exact ⟨j + 1, R, by omega, by go_num, HTn, HRow.out.alloc _, Ix.alloc ⟨x0, x1, x2, xf⟩ hXw _, hap.alloc _⟩
            case measure => simp [intOf]; omega
          · have hz0' : ((S j).2 == 0) = false := by simp [hz0]
            have HZ0 := hide hz0
            clear hz0
            obtain ⟨hm, HHm⟩ : ∃ hm, Hid (home z (S j).1 = hm) := ⟨_, hide rfl⟩
            have hhm : hm < z := by rw [← HHm.out]; exact home_lt (by omega) _
            have hbits : bits .and .u64 (S j).1 ((z : Int) - 1) = (hm : Int) := by
              have := and_mask_u64 (S j).1 e (by omega)
              rw [← HZ.out] at this
              rw [this, ← HHm.out]
              unfold home
              have := Int.emod_nonneg (S j).1 (by omega : (z : Int) ≠ 0)
              omega
            have HLen : Hid ((tkL R z).length < z) := hide (by
              rw [HTb.out.perm.length_eq]
              have h1 := tkL_mono S hj
              have h2 := HT.out
              omega)
            have hXY : X ≠ Y := fun h => hYX h.symm
            go_wp2
            go_loop [9] (fun v => ∃ (D i : Nat), D < z ∧ i < z ∧ v = .int .u64 i ∧ Hid ((hm + D) % z = i) ∧ Hid (∀ t, t < D → (R ((hm + t) % z)).2 ≠ 0)) (fun v => z - ((intOf v).toNat + z - hm) % z)
            case atStart => exact ⟨0, hm, by omega, hhm, rfl, hide (Nat.mod_eq_of_lt hhm), hide (fun t h => by omega)⟩
            case round =>
              clear hbits
              obtain ⟨D, i, hD, hi, rfl, HI, HW⟩ := hrel
              have d0 := HRow.out.cell (i := i * 2) (by omega)
              have d1 := HRow.out.cell (i := i * 2 + 1) (by omega)
              rw [pv_even] at d0
              rw [pv_odd] at d1
              have g0 := HRow.out.frozen (i * 2)
              have g1 := HRow.out.frozen (i * 2 + 1)
              have j0 : (0 : Int) ≤ (i : Int) := by omega
              have j1 : (i : Int) < (z : Int) := by omega
              by_cases hf : (R i).2 = 0
              · have hf' : ((R i).2 != 0) = false := by simp [hf]
                have HTp := hide (table_put HTb.out HZ0.out D i hD (by rw [HHm.out]; exact HI.out) (by rw [HHm.out]; exact HW.out) hf)
                clear hf
                go_wp2
                go_region
                all_goals go_wp2
                go_roundw
                case rel => exact ⟨j + 1, upd R i (S j), by omega, by go_num, HTp, ((row_set HRow.out i (S j)).alloc _).drew, (Ix.alloc (Ix.setOther (Ix.setOther ⟨x0, x1, x2, xf⟩ (p := ⟨Y, i * 2, none⟩) hYX _) (p := ⟨Y, i * 2 + 1, none⟩) hYX _) (by simpa using hXw) _).drew, (((hap.setCell (.inr hwY) _).setCell (.inr hwY) _).alloc _).drew⟩
                case measure => simp [intOf]; omega
              · have hf' : ((R i).2 != 0) = true := by simp [hf]
                have hD1 : D + 1 < z := by
                  by_cases hc : D + 1 = z
                  · exfalso
                    refine probe_room (hm := hm) (by omega) HLen.out (fun t ht => ?_)
                    by_cases ht2 : t < D
                    · exact HW.out t ht2
                    · rw [show t = D from by omega, HI.out]; exact hf
                  · omega
                have HW1 : Hid (∀ t, t < D + 1 → (R ((hm + t) % z)).2 ≠ 0) := hide (fun t ht => by
                  by_cases ht2 : t < D
                  · exact HW.out t ht2
                  · rw [show t = D from by omega, HI.out]; exact hf)
                have hbits2 : bits .and .u64 ((i : Int) + 1) ((z : Int) - 1) = (((i + 1) % z : Nat) : Int) := by
                  have := and_mask_u64 ((i : Int) + 1) e (by omega)
                  rw [← HZ.out] at this
                  rw [this]; exact_mod_cast rfl
                have HI1 : Hid ((hm + (D + 1)) % z = (i + 1) % z) := hide (by rw [← HI.out, mod_step])
                have HM := hide (wrapD hhm hD)
                have HM1 := hide (wrapD hhm hD1)
                clear hf
                go_wp2
                go_round
                case rel => exact ⟨D + 1, (i + 1) % z, hD1, Nat.mod_lt _ (by omega), rfl, HI1, HW1⟩
                case measure =>
                  have h1 := HM.out
                  have h2 := HM1.out
                  rw [HI.out] at h1
                  rw [HI1.out] at h2
                  have h3 : (((i : Int) + 1) % (z : Int)).toNat = (i + 1) % z := by
                    have : ((i : Int) + 1) % (z : Int) = (((i + 1) % z : Nat) : Int) := by exact_mod_cast rfl
                    rw [this]; exact Int.toNat_natCast _
                  simp only [intOf, Int.toNat_natCast]
                  rw [h3, h1, h2]; omega
        · go_wp2
          go_end0
          exact ⟨rfl, z, Y, R, HS.out, by have := HTb.out; rwa [show j = m from by omega] at this, hrow, hYX, hix, hap⟩
end Go.Proofs.Qxb6602994a.Mem
