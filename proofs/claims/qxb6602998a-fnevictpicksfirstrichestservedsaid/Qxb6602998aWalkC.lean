/- The walks of seat b6602998a: the copy of the peers; Evict with room. -/
import Derived.Test.Qxb6602998aWalkB
namespace Go.Proofs.Qxb6602998a
open Go.RowKit
set_option linter.unusedVariables false

/-- The cells of a row of pairs. -/
def pv (F : Nat → Int × Int) (j : Nat) : Value := .int .i64 (if j % 2 = 0 then (F (j / 2)).1 else (F (j / 2)).2)

theorem pv_even (F : Nat → Int × Int) (k : Nat) : pv F (k * 2) = .int .i64 (F k).1 := by
  unfold pv; rw [if_pos (by omega), show k * 2 / 2 = k from by omega]
theorem pv_odd (F : Nat → Int × Int) (k : Nat) : pv F (k * 2 + 1) = .int .i64 (F k).2 := by
  unfold pv; rw [if_neg (by omega), show (k * 2 + 1) / 2 = k from by omega]

theorem pairs_of_row {w : World} {b n : Nat} {t : TypeId} {F : Nat → Int × Int} (h : w.rowIs b t (n * 2) (pv F)) : Pairs w b 0 n F := by
  intro i hi
  rw [Nat.zero_add]
  exact ⟨by rw [h.cell (by omega), pv_even], by rw [h.cell (by omega), pv_odd]⟩

theorem row_set {w : World} {b n : Nat} {t : TypeId} {F : Nat → Int × Int} (h : w.rowIs b t (n * 2) (pv F)) (k : Nat) (x y : Int) (G : Nat → Int × Int)
    (hG : ∀ i, i < n → G i = if i = k then (x, y) else F i) :
    ((w.setCell ⟨b, k * 2, none⟩ (.int .i64 x)).setCell ⟨b, k * 2 + 1, none⟩ (.int .i64 y)).rowIs b t (n * 2) (pv G) := by
  refine ((h.set (k * 2) _).set (k * 2 + 1) _).congr fun j hj => ?_
  have e := hG (j / 2) (by omega)
  by_cases h1 : j = k * 2 + 1
  · subst h1
    rw [if_pos rfl, pv_odd, hG k (by omega), if_pos rfl]
  · by_cases h2 : j = k * 2
    · subst h2
      rw [if_neg (by omega), if_pos rfl, pv_even, hG k (by omega), if_pos rfl]
    · have hne : ¬ j / 2 = k := by omega
      rw [if_neg hne] at e
      rw [if_neg h1, if_neg h2]
      unfold pv
      rw [e]

theorem Try.info29 : (Try.prog.info? 29).map (fun i => (i.zero, i.size, i.bytes)) = some (some (.agg #[.int .i64 0, .int .i64 0]), 2, 16) := by kernel_rfl

/-- make([]choke.Pushed, n) -/
theorem make24 (n : Nat) (hn : n ≤ 1048576) (w : World) :
    (Instr.makeSlice 24 (.int .i64 (n : Int)) (.int .i64 (n : Int))).run Try.prog w = .ok (.slice (some ⟨w.heap.size, 0, none⟩) n n) (w.alloc (.cells (madeCells #[.int .i64 0, .int .i64 0] (n * 2)) 29)) := by
  obtain ⟨i, hi, hz⟩ := Option.map_eq_some_iff.1 Try.info29
  simp only [Prod.mk.injEq] at hz
  obtain ⟨hz, hs, hb⟩ := hz
  have hr := run_make (P := Try.prog) w 24 29 i _ Try.underlying24 hi hz .i64 .i64 n n (by omega) (Int.le_refl _) (by rw [hb]; omega) (by omega)
  simp only [Int.toNat_natCast, hs] at hr
  exact hr

theorem made_row (w : World) (n : Nat) : (w.alloc (.cells (madeCells #[.int .i64 0, .int .i64 0] (n * 2)) 29)).rowIs w.heap.size 29 (n * 2) (pv fun _ => (0, 0)) := by
  have := World.rowIs_alloc w (madeCells #[.int .i64 0, .int .i64 0] (n * 2)) 29 (pv fun _ => (0, 0)) (fun i hi => by
    rw [size_madeCells] at hi
    have : i % 2 = 0 ∨ i % 2 = 1 := by omega
    unfold pv
    rcases this with h | h <;> simp [madeCells, hi, h])
  rwa [size_madeCells] at this

set_option maxHeartbeats 400000 in
theorem evict_room (h : Int) (a : Option Addr) (n cap : Nat) (w : World) (h0 : h < 80) :
    Calls Try.prog 11 #[.int .i64 h, .slice a n cap] w fun e w' => e = .returned (.int .i64 (-1)) ∧ w' = w := by
  have hd : decide (h < 80) = true := decide_eq_true h0
  have hmt := hide (mayTake_any h w)
  go_enter Try.func11, Try.ntmps11
  go_wp2_with fail
  refine hmt.out.mono ?_
  rintro e w' ⟨rfl, rfl⟩
  clear hmt
  go_wp2_with fail
  go_ret
  exact ⟨rfl, rfl⟩

set_option maxHeartbeats 1000000 in
theorem toPushed_some (x : Addr) (b off n cap : Nat) (F : Nat → Int × Int) (w : World) (hn : n ≤ 1048576)
    (ha : 0 < n → x = ⟨b, off, none⟩) (hp : Pairs w b off n F) (hb : 0 < n → b < w.heap.size) :
    Calls Try.prog 10 #[.slice (some x) n cap] w fun e w' => e = .returned (.slice (some ⟨w.heap.size, 0, none⟩) n n) ∧ Pairs w' w.heap.size 0 n F ∧ w.heap.size < w'.heap.size ∧ Below w.heap.size w w' := by
  have hmk := fun wx => make24 n hn wx
  have hnl : ∀ wx, (binOp .eql 22 (.slice (some x) n cap) (.slice none 0 0)).run Try.prog wx = .ok (.bool false) wx := fun wx => Lib.run_eql_slice_nil wx _ _ (some x) n cap 0 0 Try.underlying22
  have hrow := made_row w n
  go_enter Try.func10, Try.ntmps10
  go_wp2
  go_loopw [4] (fun i wr => ∃ k : Nat, k ≤ n ∧ i = .int .i64 k ∧ wr.rowIs w.heap.size 29 (n * 2) (pv fun i => if i < k then F i else (0, 0)) ∧ Below w.heap.size w wr) (fun i _ => n - (intOf i).toNat)
  case atStart => exact ⟨0, Nat.zero_le _, rfl, by simpa using hrow, (Below.refl _ _).alloc (Nat.le_refl _) _⟩
  case round =>
    clear hrow hmk hnl
    obtain ⟨k, hk, rfl, hrow, hnx⟩ := hrel
    by_cases hlt : k < n
    · obtain rfl := ha (by omega)
      obtain ⟨c0, c1⟩ := (hp.below hnx hb) k hlt
      have d0 := hrow.cell (i := k * 2) (by omega)
      have d1 := hrow.cell (i := k * 2 + 1) (by omega)
      have f0 := hrow.frozen (k * 2)
      have f1 := hrow.frozen (k * 2 + 1)
      have HR := hide hrow
      clear hrow
      have i1 : (k : Int) < (n : Int) := by omega
      have i0 : (0 : Int) ≤ (k : Int) := by omega
      go_wp2
      go_region
      all_goals go_wp2
      go_roundw
      case rel =>
        refine ⟨k + 1, by omega, by go_num, (row_set HR.out k (F k).1 (F k).2 _ fun i hi => ?_).drew, ((hnx.setCell (Nat.le_refl _) _).setCell (Nat.le_refl _) _).drew⟩
        by_cases e : i = k
        · subst e; simp
        · have : (i < k + 1) = (i < k) := by simp; omega
          simp only [this, if_neg e]
      case measure => simp [intOf]; omega
    · go_wp2
      go_ret
      refine ⟨rfl, pairs_of_row (hrow.congr fun j hj => ?_), hrow.lt, hnx⟩
      have hF : (if j / 2 < k then F (j / 2) else (0, 0)) = F (j / 2) := if_pos (by omega)
      simp only [pv, hF]

set_option maxHeartbeats 400000 in
theorem toPushed_nil (w : World) : Calls Try.prog 10 #[.slice none 0 0] w fun e w' => e = .returned (.slice none 0 0) ∧ w' = w := by
  have hnl : ∀ wx, (binOp .eql 22 (.slice none 0 0) (.slice none 0 0)).run Try.prog wx = .ok (.bool true) wx := fun wx => Lib.run_eql_slice_nil wx _ _ none 0 0 0 0 Try.underlying22
  go_enter Try.func10, Try.ntmps10
  go_wp2
  go_ret
  exact ⟨rfl, rfl⟩

/-- What the laws are told of the slice of peers that came in. -/
structure Came (w : World) (a : Option Addr) (b off n cap : Nat) (F : Nat → Int × Int) : Prop where
  nil : a = none → n = 0 ∧ cap = 0
  at_ : 0 < n → a = some ⟨b, off, none⟩
  cells : Pairs w b off n F
  lt : 0 < n → b < w.heap.size

/-- The copy, whatever came in. -/
theorem toPushed_any (a : Option Addr) (b off n cap : Nat) (F : Nat → Int × Int) (w : World) (hn : n ≤ 1048576) (h : Came w a b off n cap F) :
    Calls Try.prog 10 #[.slice a n cap] w fun e w' => ∃ (a' : Option Addr) (b' cap' : Nat), e = .returned (.slice a' n cap') ∧ (0 < n → a' = some ⟨b', 0, none⟩) ∧ Pairs w' b' 0 n F ∧ (0 < n → b' < w'.heap.size) ∧ Below w.heap.size w w' := by
  cases a with
  | none =>
    obtain ⟨rfl, rfl⟩ := h.nil rfl
    exact (toPushed_nil w).mono fun e w' ⟨he, hw⟩ => ⟨none, 0, 0, he, by omega, fun i hi => by omega, by omega, by rw [hw]; exact Below.refl _ _⟩
  | some x =>
    refine (toPushed_some x b off n cap F w hn (fun h0 => by simpa using h.at_ h0) h.cells h.lt).mono fun e w' ⟨he, hp, hl, hb⟩ => ?_
    exact ⟨_, _, _, he, fun _ => rfl, hp, fun _ => hl, hb⟩
end Go.Proofs.Qxb6602998a
