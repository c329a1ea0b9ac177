/- A slice of slots that came in, opened. -/
import Derived.Test.Qxb6602994aMemA
import Derived.ProofKit
import Derived.OpenShut
import Derived.Deep.SlicePairs
namespace Go.Proofs.Qxb6602994a
open Go.ChangeShapes Go.WideShapes Go.ChangeAt Go.RowKit Go.Deep Tab Mem
set_option linter.unusedVariables false

theorem came_of {H : Type} {enc : TypeId × Value → H} {W : World} {fuel : Nat} {x : DataW H × List MemPlace} {a0 : Option Addr} {len0 cap0 : Nat}
    (h : DataW.trod enc Try.prog W 0 (fun _ => true) true fuel 38 [.slice a0 len0 cap0] = some x) :
    ∃ (b off : Nat) (F : Nat → P), Came W a0 b off len0 cap0 F ∧ len0 ≤ 9223372036854775807 := by
  rcases open_slice_pairs Try.underlying38 Try.underlying48 (by kernel_rfl) rfl rfl (by kernel_rfl) (by kernel_rfl) h with ⟨hcs, _⟩ | ⟨a, len, cap, m, n, V0, V1, D0, D1, P0, P1, hcs, _, hl, hm, hmm, _, hc⟩
  · simp at hcs
    obtain ⟨rfl, rfl, rfl⟩ := hcs
    exact ⟨0, 0, fun _ => (0, 0), ⟨fun _ => ⟨rfl, rfl⟩, by omega, fun i hi => by omega, by omega⟩, by omega⟩
  · simp at hcs
    obtain ⟨rfl, rfl, rfl⟩ := hcs
    simp only [if_true] at hmm
    unfold maxLen at hm
    obtain ⟨b, off, spot⟩ := a
    refine ⟨b, off, fun i => (intOf (V0 i), intOf (V1 i)), ⟨by simp, fun h0 => ?_, fun i hi => ?_, fun h0 => ?_⟩, by omega⟩
    · have hs := World.cell?_spot (hc 0 (by omega)).1
      simp [Addr.add] at hs
      subst hs; rfl
    · obtain ⟨c0, c1, t0, t1⟩ := hc i (by omega)
      have hs := World.cell?_spot (hc 0 (by omega)).1
      simp [Addr.add] at hs
      subst hs
      rw [add_plain] at c0 c1
      obtain ⟨z0, e0, _, _⟩ := DataW.trod_int Try.underlying30 t0
      obtain ⟨z1, e1, _, _⟩ := DataW.trod_int Try.underlying3 t1
      simp at e0 e1
      rw [e0] at c0
      rw [e1] at c1
      simp only [e0, e1, intOf]
      exact ⟨c0, by rw [Nat.add_assoc]; exact c1⟩
    · exact World.block_lt_of_cell? W _ (hc 0 (by omega)).1
end Go.Proofs.Qxb6602994a
