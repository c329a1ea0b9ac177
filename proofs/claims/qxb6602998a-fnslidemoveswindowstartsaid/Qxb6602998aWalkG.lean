/- The walks of seat b6602998a: the meter that slides. -/
import Derived.Test.Qxb6602998aFloat2
import Derived.Test.Qxb6602998aWalkA
import Derived.Laws.Cover2
import Derived.Laws.FloatArith
import Derived.Deep.QuietTactic
import Derived.BigQuiet
import Derived.Deep.RegionHeld3
namespace Go.Proofs.Qxb6602998a
open Go.RowKit Fl
set_option linter.unusedVariables false
set_option linter.unusedSimpArgs false

/-- What an operation on two doubles gives in world w: the bits that IEEE 754 fixes; or a NaN off the tape. -/
def fv (op : BinOp) (x y : Nat) (w : World) : Nat := match floatBits op .f64 x y with
  | some r => r
  | none => Question.cut (.nanBits .f64 x y) (w.tape w.drawn (.nanBits .f64 x y))
/-- The world behind it. -/
def fw (op : BinOp) (x y : Nat) (w : World) : World := match floatBits op .f64 x y with
  | some _ => w
  | none => w.drew

theorem run_fv_sub {P : Program} (t : TypeId) (x y : Nat) (w : World) : (binOp .sub t (.float .f64 x) (.float .f64 y)).run P w = .ok (.float .f64 (fv .sub x y w)) (fw .sub x y w) := by
  unfold fv fw
  cases h : floatBits .sub .f64 x y with
  | some r => exact run_float_arith w .sub t .f64 x y r h
  | none =>
    have h' : FloatKind.f64.format.sub x y = none := h
    simp [binOp, Op.floatArith, h', choose]
    rfl
theorem run_fv_mul {P : Program} (t : TypeId) (x y : Nat) (w : World) : (binOp .mul t (.float .f64 x) (.float .f64 y)).run P w = .ok (.float .f64 (fv .mul x y w)) (fw .mul x y w) := by
  unfold fv fw
  cases h : floatBits .mul .f64 x y with
  | some r => exact run_float_arith w .mul t .f64 x y r h
  | none =>
    have h' : FloatKind.f64.format.mul x y = none := h
    simp [binOp, Op.floatArith, h', choose]
    rfl
theorem run_fv_quo {P : Program} (t : TypeId) (x y : Nat) (w : World) : (binOp .quo t (.float .f64 x) (.float .f64 y)).run P w = .ok (.float .f64 (fv .quo x y w)) (fw .quo x y w) := by
  unfold fv fw
  cases h : floatBits .quo .f64 x y with
  | some r => exact run_float_arith w .quo t .f64 x y r h
  | none =>
    have h' : FloatKind.f64.format.div x y = none := h
    simp [binOp, Op.floatArith, h', choose]
    rfl
theorem fw_cell (op : BinOp) (x y : Nat) (w : World) (a : Addr) : (fw op x y w).cell? a = w.cell? a := by
  unfold fw; cases floatBits op .f64 x y <;> rfl
theorem fw_frozen (op : BinOp) (x y : Nat) (w : World) (a : Addr) : (fw op x y w).frozen? a = w.frozen? a := by
  unfold fw; cases floatBits op .f64 x y <;> rfl
theorem fw_size (op : BinOp) (x y : Nat) (w : World) : (fw op x y w).heap.size = w.heap.size := by
  unfold fw; cases floatBits op .f64 x y <;> rfl
theorem below_fw {B : Nat} {a w : World} (h : Below B a w) (op : BinOp) (x y : Nat) : Below B a (fw op x y w) := by
  unfold fw
  cases floatBits op .f64 x y
  · exact h.drew
  · exact h

theorem fv_some {op : BinOp} {x y r : Nat} (h : floatBits op .f64 x y = some r) (w : World) : fv op x y w = r := by
  unfold fv; rw [h]
theorem fv_none {op : BinOp} {x y : Nat} (h : floatBits op .f64 x y = none) (w : World) : nanD (fv op x y w) = true := by
  unfold fv; rw [h]
  simp only [Question.cut]
  generalize w.tape w.drawn (.nanBits .f64 x y) = t
  have hw : D.signWeight = 9223372036854775808 := by decide
  have hi : D.infRung = 9218868437227405312 := by decide
  have hb : D.binade = 4503599627370496 := by decide
  have h1 : (t / 2) % (2 ^ 52 - 1) < 2 ^ 52 - 1 := Nat.mod_lt _ (by decide)
  have e : (t % 2) * 2 ^ 63 + 0x7ff0000000000000 + 1 + (t / 2) % (2 ^ 52 - 1) = D.word (decide (t % 2 = 1)) (D.infRung + 1 + (t / 2) % (2 ^ 52 - 1)) := by
    unfold Ieee.Format.word
    rw [hw, hi]
    by_cases ht : t % 2 = 1
    · rw [ht]; simp <;> omega
    · rw [show t % 2 = 0 from by omega]; simp <;> omega
  rw [e]
  unfold nanD
  rw [read_word _ _ (by rw [hw, hi]; omega), if_neg (by rw [hi, hb]; omega), if_neg (by omega), if_neg (by omega)]
  rfl

set_option maxHeartbeats 400000 in
theorem newMeter_any (s l b : Nat) (w : World) :
    Calls Try.prog 18 #[.float .f64 s, .float .f64 l, .float .f64 b] w fun e w' => e = .returned (.pointer (some ⟨w.heap.size, 0, none⟩)) ∧ w' = w.alloc (.cells #[.float .f64 s, .float .f64 l, .float .f64 b] 45) := by
  go_enter Try.func18, Try.ntmps18
  go_wp2
  go_ret
  exact ⟨rfl, rfl⟩

set_option maxHeartbeats 400000 in
theorem fields_any (s l b B : Nat) (w : World) (c0 : w.cell? ⟨B, 0, none⟩ = some (.float .f64 s)) (c1 : w.cell? ⟨B, 1, none⟩ = some (.float .f64 l)) (c2 : w.cell? ⟨B, 2, none⟩ = some (.float .f64 b)) :
    Calls Try.prog 20 #[.pointer (some ⟨B, 0, none⟩)] w fun e w' => e = .returned (.tuple #[.float .f64 s, .float .f64 l, .float .f64 b]) ∧ w' = w.drew := by
  go_enter Try.func20, Try.ntmps20
  go_wp2
  go_region
  all_goals go_wp2
  all_goals go_ret3
  all_goals exact ⟨rfl, rfl⟩

/-- The meter in memory. -/
structure Meter (w : World) (B s l b : Nat) : Prop where
  c0 : w.cell? ⟨B, 0, none⟩ = some (.float .f64 s)
  c1 : w.cell? ⟨B, 1, none⟩ = some (.float .f64 l)
  c2 : w.cell? ⟨B, 2, none⟩ = some (.float .f64 b)
  f0 : w.frozen? ⟨B, 0, none⟩ = false
  f1 : w.frozen? ⟨B, 1, none⟩ = false
  f2 : w.frozen? ⟨B, 2, none⟩ = false

theorem Meter.fw {w : World} {B s l b : Nat} (h : Meter w B s l b) (op : BinOp) (x y : Nat) : Meter (fw op x y w) B s l b :=
  ⟨by rw [fw_cell]; exact h.c0, by rw [fw_cell]; exact h.c1, by rw [fw_cell]; exact h.c2, by rw [fw_frozen]; exact h.f0, by rw [fw_frozen]; exact h.f1, by rw [fw_frozen]; exact h.f2⟩
theorem Meter.drew {w : World} {B s l b : Nat} (h : Meter w B s l b) : Meter w.drew B s l b := ⟨h.c0, h.c1, h.c2, h.f0, h.f1, h.f2⟩
theorem ne02 (B : Nat) : (⟨B, 0, none⟩ : Addr) ≠ ⟨B, 2, none⟩ := fun h => by injection h with _ h2; cases h2
theorem ne12 (B : Nat) : (⟨B, 1, none⟩ : Addr) ≠ ⟨B, 2, none⟩ := fun h => by injection h with _ h2; cases h2
theorem ne10 (B : Nat) : (⟨B, 1, none⟩ : Addr) ≠ ⟨B, 0, none⟩ := fun h => by injection h with _ h2; cases h2
theorem Meter.slid {w : World} {B s l b : Nat} (h : Meter w B s l b) (f R : Nat) : Meter ((w.setCell ⟨B, 2, none⟩ (.float .f64 R)).setCell ⟨B, 0, none⟩ (.float .f64 f)) B f l R := by
  have e0 : (w.setCell ⟨B, 2, none⟩ (.float .f64 R)).cell? ⟨B, 0, none⟩ = some (.float .f64 s) := by
    rw [World.cell?_setCell_other (h := (ne02 B).symm)]; exact h.c0
  have e2 : (w.setCell ⟨B, 2, none⟩ (.float .f64 R)).cell? ⟨B, 2, none⟩ = some (.float .f64 R) := World.cell?_setCell_same _ _ _ h.c2
  refine ⟨World.cell?_setCell_same _ _ _ e0, ?_, ?_, ?_, ?_, ?_⟩
  · rw [World.cell?_setCell_other (h := (ne10 B).symm), World.cell?_setCell_other (h := (ne12 B).symm)]; exact h.c1
  · rw [World.cell?_setCell_other (h := ne02 B)]; exact e2
  · rw [World.frozen?_setCell, World.frozen?_setCell]; exact h.f0
  · rw [World.frozen?_setCell, World.frozen?_setCell]; exact h.f1
  · rw [World.frozen?_setCell, World.frozen?_setCell]; exact h.f2
theorem keep2 {w : World} {B s l : Nat} (h : w.cell? ⟨B, 0, none⟩ = some (.float .f64 s) ∧ w.cell? ⟨B, 1, none⟩ = some (.float .f64 l)) (v : Value) :
    (w.setCell ⟨B, 2, none⟩ v).cell? ⟨B, 0, none⟩ = some (.float .f64 s) ∧ (w.setCell ⟨B, 2, none⟩ v).cell? ⟨B, 1, none⟩ = some (.float .f64 l) :=
  ⟨by rw [World.cell?_setCell_other (h := (ne02 B).symm)]; exact h.1, by rw [World.cell?_setCell_other (h := (ne12 B).symm)]; exact h.2⟩
theorem below_chain {B : Nat} {a w : World} (h : Below B a w) : Below B a w := h

/-- The tests, in the walk's own form. -/
def leqF (x y : Nat) : Bool := FloatKind.f64.format.order x y == some .lt || FloatKind.f64.format.order x y == some .eq
def geqF (x y : Nat) : Bool := FloatKind.f64.format.order x y == some .gt || FloatKind.f64.format.order x y == some .eq

/-- A store of a float: the law that the kit's stock lacks. -/
theorem run_store_float {P : Program} {w : World} {a : Addr} {m : Mode} (k : FloatKind) (b : Nat) : (store a (.float k b) m).run P w = stored P w a (.float k b) m := run_store P w a _ m rfl
attribute [local go_sem] run_store_float

set_option maxHeartbeats 1000000 in
theorem slide_stay (s l b n f B : Nat) (w w1 : World) (hM : Meter w1 B s l b) (hf : fv .sub n 4626322717216342016 w = f) (hw : fw .sub n 4626322717216342016 w = w1) (h1 : leqF f s = true) :
    Calls Try.prog 24 #[.pointer (some ⟨B, 0, none⟩), .float .f64 n] w fun e w' => e = .returned (.tuple #[]) ∧ w' = w1 := by
  obtain ⟨c0, c1, c2, f0, f1, f2⟩ := hM
  have ks := fun wx x y => run_fv_sub (P := Try.prog) 32 x y wx
  have h3 : FloatKind.f64.format.order f s = some .lt ∨ FloatKind.f64.format.order f s = some .eq := by simpa [leqF] using h1
  clear h1
  rcases h3 with h3 | h3
  all_goals
    go_enter Try.func24, Try.ntmps24
    go_wp2
    exact bodyPost_ret (v := .tuple #[]) (by simp [results, Try.results24, go_sem]) rfl ⟨rfl, rfl⟩

set_option maxHeartbeats 1000000 in
theorem slide_past (s l b n f B : Nat) (w w1 : World) (hM : Meter w1 B s l b) (hf : fv .sub n 4626322717216342016 w = f) (hw : fw .sub n 4626322717216342016 w = w1) (h1 : leqF f s = false) (h2 : geqF f l = true) :
    Calls Try.prog 24 #[.pointer (some ⟨B, 0, none⟩), .float .f64 n] w fun e w' => e = .returned (.tuple #[]) ∧ w' = (w1.setCell ⟨B, 2, none⟩ (.float .f64 0)).setCell ⟨B, 0, none⟩ (.float .f64 f) := by
  obtain ⟨c0, c1, c2, f0, f1, f2⟩ := hM
  have ks := fun wx x y => run_fv_sub (P := Try.prog) 32 x y wx
  have h3 : FloatKind.f64.format.order f l = some .gt ∨ FloatKind.f64.format.order f l = some .eq := by simpa [geqF] using h2
  unfold leqF at h1
  clear h2
  rcases h3 with h3 | h3
  all_goals
    go_enter Try.func24, Try.ntmps24
    go_wp2
    go_end0
    exact ⟨rfl, rfl⟩

end Go.Proofs.Qxb6602998a
