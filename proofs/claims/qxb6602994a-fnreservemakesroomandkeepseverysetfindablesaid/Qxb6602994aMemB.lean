/- The walks of seat b6602994a: splitSlots. -/
import Derived.Test.Qxb6602994aMemA
namespace Go.Proofs.Qxb6602994a.Mem
open Go.RowKit Tab
set_option linter.unusedVariables false

theorem rowI_fill {kd : IntKind} {w : World} {b n k : Nat} {t : TypeId} {g : Nat → Int} (h : w.rowIs b t n (iv kd fun i => if i < k then g i else 0)) :
    (w.setCell ⟨b, k, none⟩ (.int kd (g k))).rowIs b t n (iv kd fun i => if i < k + 1 then g i else 0) := by
  refine (rowI_set h k (g k)).congr fun j hj => ?_
  unfold iv updI
  by_cases e : j = k
  · subst e; simp
  · have : (j < k + 1) = (j < k) := by simp; omega
    simp [e, this]
theorem rowI_full {kd : IntKind} {w : World} {b n k : Nat} {t : TypeId} {g : Nat → Int} (h : w.rowIs b t n (iv kd fun i => if i < k then g i else 0)) (hk : n ≤ k) : w.rowIs b t n (iv kd g) :=
  h.congr fun j hj => by unfold iv; simp; omega
theorem row_fill {w : World} {b n k : Nat} {t : TypeId} {G : Nat → P} (h : w.rowIs b t (n * 2) (pv fun i => if i < k then G i else (0, 0))) :
    ((w.setCell ⟨b, k * 2, none⟩ (.int .u64 (G k).1)).setCell ⟨b, k * 2 + 1, none⟩ (.int .i64 (G k).2)).rowIs b t (n * 2) (pv fun i => if i < k + 1 then G i else (0, 0)) := by
  refine (row_set h k (G k)).congr fun j hj => ?_
  have : upd (fun i => if i < k then G i else (0, 0)) k (G k) (j / 2) = if j / 2 < k + 1 then G (j / 2) else (0, 0) := by
    by_cases e : j / 2 = k
    · rw [e, upd_same, if_pos (by omega)]
    · rw [upd_other _ _ e]
      by_cases e2 : j / 2 < k
      · rw [if_pos e2, if_pos (by omega)]
      · rw [if_neg e2, if_neg (by omega)]
  unfold pv
  simp only [this]
theorem row_full {w : World} {b n k : Nat} {t : TypeId} {G : Nat → P} (h : w.rowIs b t (n * 2) (pv fun i => if i < k then G i else (0, 0))) (hk : n ≤ k) : w.rowIs b t (n * 2) (pv G) :=
  h.congr fun j hj => by
    unfold pv
    have : (if j / 2 < k then G (j / 2) else (0, 0)) = G (j / 2) := if_pos (by omega)
    simp only [this]

set_option maxHeartbeats 1000000 in
theorem split_some (x : Addr) (b off n cap : Nat) (S : Nat → P) (w : World) (hn : n ≤ 1048576) (hC : Came w (some x) b off n cap S) :
    Calls Try.prog 24 #[.slice (some x) n cap] w fun e w' =>
      e = .returned (.tuple #[.slice (some ⟨w.heap.size, 0, none⟩) n n, .slice (some ⟨w.heap.size + 1, 0, none⟩) n n]) ∧
      w'.rowIs w.heap.size 30 n (iv .u64 fun i => (S i).1) ∧ w'.rowIs (w.heap.size + 1) 3 n (iv .i64 fun i => (S i).2) ∧ Below w.heap.size w w' := by
  obtain ⟨_, ha0, hp, hb⟩ := hC
  have ha : 0 < n → x = ⟨b, off, none⟩ := fun h => by simpa using ha0 h
  clear ha0
  have hmk := fun wx => make41 n hn wx
  have hmk2 := fun wx => make42 n hn wx
  have hnl : ∀ wx, (binOp .eql 38 (.slice (some x) n cap) (.slice none 0 0)).run Try.prog wx = .ok (.bool false) wx := fun wx => Lib.run_eql_slice_nil wx _ _ (some x) n cap 0 0 Try.underlying38
  have r1 := (made_ints w n .u64 30).alloc (.cells (madeCells #[.int .i64 0] n) 3)
  have r2 := made_ints (w.alloc (.cells (madeCells #[.int .u64 0] n) 30)) n .i64 3
  have HR1 := hide r1
  have HR2 := hide r2
  clear r1 r2
  go_enter Try.func24, Try.ntmps24
  go_wp2
  go_loopw [6] (fun i wr => ∃ k : Nat, k ≤ n ∧ i = .int .i64 k ∧ wr.rowIs w.heap.size 30 n (iv .u64 fun i => if i < k then (S i).1 else 0) ∧ wr.rowIs (w.heap.size + 1) 3 n (iv .i64 fun i => if i < k then (S i).2 else 0) ∧ Below w.heap.size w wr) (fun i _ => n - (intOf i).toNat)
  case atStart => exact ⟨0, Nat.zero_le _, rfl, by simpa using HR1.out, by simpa using HR2.out, ((Below.refl _ _).alloc (Nat.le_refl _) _).alloc (by simp) _⟩
  case round =>
    clear HR1 HR2 hmk hmk2 hnl
    obtain ⟨k, hk, rfl, hr1, hr2, hnx⟩ := hrel
    by_cases hlt : k < n
    · obtain rfl := ha (by omega)
      have hbb := hb (by omega)
      obtain ⟨c0, c1⟩ := (hp.below hnx hb) k hlt
      have d0 := hr1.cell hlt
      have d1 := hr2.cell hlt
      have f0 := hr1.frozen k
      have f1 := hr2.frozen k
      have HR1 := hide hr1
      have HR2 := hide hr2
      clear hr1 hr2
      have i1 : (k : Int) < (n : Int) := by omega
      have i0 : (0 : Int) ≤ (k : Int) := by omega
      have hne : b ≠ w.heap.size := by omega
      go_wp2
      go_roundw
      case rel => exact ⟨k + 1, by omega, by go_num, (rowI_fill (g := fun i => (S i).1) HR1.out).setOther (by simp) _, rowI_fill (g := fun i => (S i).2) (HR2.out.setOther (by simp) _), (hnx.setCell (Nat.le_refl _) _).setCell (by simp) _⟩
      case measure => simp [intOf]; omega
    · go_wp2
      go_ret2
      exact ⟨rfl, rowI_full hr1 (by omega), rowI_full hr2 (by omega), hnx⟩

set_option maxHeartbeats 400000 in
theorem split_nil (w : World) : Calls Try.prog 24 #[.slice none 0 0] w fun e w' => e = .returned (.tuple #[.slice none 0 0, .slice none 0 0]) ∧ w' = w := by
  have hnl : ∀ wx, (binOp .eql 38 (.slice none 0 0) (.slice none 0 0)).run Try.prog wx = .ok (.bool true) wx := fun wx => Lib.run_eql_slice_nil wx _ _ none 0 0 0 0 Try.underlying38
  go_enter Try.func24, Try.ntmps24
  go_wp2
  go_ret2
  exact ⟨rfl, rfl⟩

/-- What is known of the two slices that the split gives. -/
structure Split (w : World) (ah ap : Option Addr) (bh bp n : Nat) (S : Nat → P) : Prop where
  nil : ah = none ↔ ap = none
  nil0 : ah = none → n = 0
  h : ∀ x, ah = some x → x = ⟨bh, 0, none⟩ ∧ bh < w.heap.size ∧ Ints .u64 w bh n (fun i => (S i).1)
  p : ∀ x, ap = some x → x = ⟨bp, 0, none⟩ ∧ bp < w.heap.size ∧ Ints .i64 w bp n (fun i => (S i).2)

theorem split_any (a : Option Addr) (b off n cap : Nat) (S : Nat → P) (w : World) (hn : n ≤ 1048576) (hC : Came w a b off n cap S) :
    Calls Try.prog 24 #[.slice a n cap] w fun e w' => ∃ (ah ap : Option Addr) (bh bp c : Nat),
      e = .returned (.tuple #[.slice ah n c, .slice ap n c]) ∧ Split w' ah ap bh bp n S ∧ (ah = none → c = 0) ∧ Below w.heap.size w w' := by
  cases a with
  | none =>
    obtain ⟨rfl, rfl⟩ := hC.nil rfl
    exact (split_nil w).mono fun e w' ⟨he, hw⟩ => ⟨none, none, 0, 0, 0, he, ⟨Iff.rfl, fun _ => rfl, fun x h => (by cases h), fun x h => (by cases h)⟩, fun _ => rfl, by rw [hw]; exact Below.refl _ _⟩
  | some x =>
    refine (split_some x b off n cap S w hn hC).mono fun e w' ⟨he, h1, h2, hb⟩ => ?_
    exact ⟨_, _, w.heap.size, w.heap.size + 1, n, he, ⟨by simp, fun h => (by cases h), fun y h => ⟨(by cases h; rfl), h1.lt, ints_of_row h1⟩, fun y h => ⟨(by cases h; rfl), h2.lt, ints_of_row h2⟩⟩, fun h => (by cases h), hb⟩
end Go.Proofs.Qxb6602994a.Mem
