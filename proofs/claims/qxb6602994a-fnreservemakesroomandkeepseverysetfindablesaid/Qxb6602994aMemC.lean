/- The walks of seat b6602994a: reserve. -/
import Derived.Test.Qxb6602994aMemB
namespace Go.Proofs.Qxb6602994a.Mem
open Go.RowKit Tab
set_option linter.unusedVariables false

/-- All blocks that were there but block X are as they were. -/
structure Apart (X : Nat) (w w' : World) : Prop where
  os : w'.os = w.os
  tape : w'.tape = w.tape
  output : w'.output = w.output
  size : w.heap.size ≤ w'.heap.size
  block : ∀ k, k < w.heap.size → k ≠ X → w'.heap[k]? = w.heap[k]?
theorem Apart.refl (X : Nat) (w : World) : Apart X w w := ⟨rfl, rfl, rfl, Nat.le_refl _, fun _ _ _ => rfl⟩
theorem Apart.drew {X : Nat} {w w' : World} (h : Apart X w w') : Apart X w w'.drew := ⟨h.os, h.tape, h.output, h.size, h.block⟩
theorem Apart.alloc {X : Nat} {w w' : World} (h : Apart X w w') (o : Obj) : Apart X w (w'.alloc o) :=
  ⟨h.os, h.tape, h.output, by have := h.size; simp; omega, fun k hk hx => (Below.heap_alloc w' o k (by have := h.size; omega)).trans (h.block k hk hx)⟩
theorem Apart.setCell {X : Nat} {w w' : World} (h : Apart X w w') {a : Addr} (ha : a.block = X ∨ w.heap.size ≤ a.block) (v : Value) : Apart X w (w'.setCell a v) :=
  ⟨h.os, h.tape, h.output, by have := h.size; simp; omega, fun k hk hx => (Below.heap_setCell w' a v k (by omega)).trans (h.block k hk hx)⟩
theorem Apart.below {X : Nat} {w w' : World} (h : Apart X w w') (hX : X ≤ w.heap.size) : Below X w w' :=
  ⟨h.os, h.tape, h.output, h.size, fun k hk => h.block k (by omega) (by omega)⟩
theorem Apart.pairs {X : Nat} {w w' : World} {b off n : Nat} {F : Nat → P} (h : Apart X w w') (hp : Pairs w b off n F) (hb : 0 < n → b < w.heap.size ∧ b ≠ X) : Pairs w' b off n F := by
  intro i hi
  have h1 := hp i hi
  have e := h.block b (hb (by omega)).1 (hb (by omega)).2
  exact ⟨(World.cell?_of_block (w := w) (a := ⟨b, off + i * 2, none⟩) e).trans h1.1, (World.cell?_of_block (w := w) (a := ⟨b, off + i * 2 + 1, none⟩) e).trans h1.2⟩

/-- The index struct in memory. -/
structure Ix (w : World) (X : Nat) (sl : Value) (n sink : Int) : Prop where
  c0 : w.cell? ⟨X, 0, none⟩ = some sl
  c1 : w.cell? ⟨X, 1, none⟩ = some (.int .i64 n)
  c2 : w.cell? ⟨X, 2, none⟩ = some (.int .i64 sink)
  f0 : w.frozen? ⟨X, 0, none⟩ = false

set_option maxHeartbeats 1000000 in
theorem reserve_stay (X : Nat) (asl : Option Addr) (m csl : Nat) (n sink k : Int) (w : World) (hI : Ix w X (.slice asl m csl) n sink)
    (hn0 : 0 ≤ n) (hn1 : n ≤ 65536) (hk0 : -65536 ≤ k) (hk1 : k ≤ 65536) (hm : m ≤ 65536) (h : 2 * (n + k) ≤ m) :
    Calls Try.prog 35 #[.pointer (some ⟨X, 0, none⟩), .int .i64 k] w fun e w' => e = .returned (.tuple #[]) ∧ ∃ q, w' = w.drewN q := by
  obtain ⟨c0, c1, c2, f0⟩ := hI
  go_enter Try.func35, Try.ntmps35
  go_wp2
  go_quiet (fail)
  go_wp2
  exact bodyPost_ret (v := .tuple #[]) (by simp [results, Try.results35, go_sem]) rfl ⟨rfl, _, rfl⟩
end Go.Proofs.Qxb6602994a.Mem
