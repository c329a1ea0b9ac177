/- The walks of seat b6602994a over slices of slots: the memory's words, and the small functions. -/
import Derived.Test.Qxb6602994aRows
import Derived.Test.Qxb6602994aTab2
import Derived.WalkKit
import Derived.WalkSpells
import Derived.WalkLawsBesides
import Derived.Deep.DeepCutAuto
import Derived.Deep.OwnRows
import Derived.Deep.RegionWith
import Derived.Deep.QuietTactic
import Derived.BigQuiet
import Derived.Deep.RegionHeld3
namespace Go.Proofs.Qxb6602994a.Mem
open Go.RowKit Tab
set_option linter.unusedVariables false

theorem hide {p : Prop} (h : p) : Hid p := h
theorem ret_bool {a b : Bool} (h : a = b) : Ending.returned (.bool a) = .returned (.bool b) := by rw [h]
theorem ret_int {k : IntKind} {a b : Int} (h : a = b) : Ending.returned (.int k a) = .returned (.int k b) := by rw [h]

/-- n slots of two cells each, from offset off of block b on. -/
def Pairs (w : World) (b off n : Nat) (F : Nat → P) : Prop :=
  ∀ i, i < n → w.cell? ⟨b, off + i * 2, none⟩ = some (.int .u64 (F i).1) ∧ w.cell? ⟨b, off + i * 2 + 1, none⟩ = some (.int .i64 (F i).2)
/-- n numbers of kind k at the head of block b. -/
def Ints (k : IntKind) (w : World) (b n : Nat) (f : Nat → Int) : Prop :=
  ∀ i, i < n → w.cell? ⟨b, i, none⟩ = some (.int k (f i))

theorem Pairs.below {w w' : World} {b off n B : Nat} {F : Nat → P} (h : Pairs w b off n F) (hb : Below B w w') (hB : 0 < n → b < B) : Pairs w' b off n F := by
  intro i hi
  have h1 := h i hi
  exact ⟨(hb.cell (p := ⟨b, off + i * 2, none⟩) (hB (by omega))).trans h1.1, (hb.cell (p := ⟨b, off + i * 2 + 1, none⟩) (hB (by omega))).trans h1.2⟩
theorem Ints.below {k : IntKind} {w w' : World} {b n B : Nat} {f : Nat → Int} (h : Ints k w b n f) (hb : Below B w w') (hB : 0 < n → b < B) : Ints k w' b n f := by
  intro i hi
  exact (hb.cell (p := ⟨b, i, none⟩) (hB (by omega))).trans (h i hi)

/-- The cells of a row of slots; of a row of numbers. -/
def pv (F : Nat → P) (j : Nat) : Value := if j % 2 = 0 then .int .u64 (F (j / 2)).1 else .int .i64 (F (j / 2)).2
def iv (k : IntKind) (f : Nat → Int) (j : Nat) : Value := .int k (f j)

theorem pv_even (F : Nat → P) (k : Nat) : pv F (k * 2) = .int .u64 (F k).1 := by
  unfold pv; rw [if_pos (by omega), show k * 2 / 2 = k from by omega]
theorem pv_odd (F : Nat → P) (k : Nat) : pv F (k * 2 + 1) = .int .i64 (F k).2 := by
  unfold pv; rw [if_neg (by omega), show (k * 2 + 1) / 2 = k from by omega]

theorem pairs_of_row {w : World} {b n : Nat} {t : TypeId} {F : Nat → P} (h : w.rowIs b t (n * 2) (pv F)) : Pairs w b 0 n F := by
  intro i hi
  rw [Nat.zero_add]
  exact ⟨by rw [h.cell (by omega), pv_even], by rw [h.cell (by omega), pv_odd]⟩
theorem ints_of_row {k : IntKind} {w : World} {b n : Nat} {t : TypeId} {f : Nat → Int} (h : w.rowIs b t n (iv k f)) : Ints k w b n f := fun i hi => h.cell hi

theorem row_set {w : World} {b n : Nat} {t : TypeId} {F : Nat → P} (h : w.rowIs b t (n * 2) (pv F)) (k : Nat) (p : P) :
    ((w.setCell ⟨b, k * 2, none⟩ (.int .u64 p.1)).setCell ⟨b, k * 2 + 1, none⟩ (.int .i64 p.2)).rowIs b t (n * 2) (pv (upd F k p)) := by
  refine ((h.set (k * 2) _).set (k * 2 + 1) _).congr fun j hj => ?_
  by_cases h1 : j = k * 2 + 1
  · subst h1
    rw [if_pos rfl, pv_odd, upd_same]
  · by_cases h2 : j = k * 2
    · subst h2
      rw [if_neg (by omega), if_pos rfl, pv_even, upd_same]
    · have hne : j / 2 ≠ k := by omega
      rw [if_neg h1, if_neg h2]
      unfold pv
      rw [upd_other _ _ hne]

def updI (f : Nat → Int) (k : Nat) (v : Int) : Nat → Int := fun i => if i = k then v else f i
theorem rowI_set {kd : IntKind} {w : World} {b n : Nat} {t : TypeId} {f : Nat → Int} (h : w.rowIs b t n (iv kd f)) (k : Nat) (v : Int) :
    (w.setCell ⟨b, k, none⟩ (.int kd v)).rowIs b t n (iv kd (updI f k v)) := by
  refine (h.set k _).congr fun j hj => ?_
  unfold iv updI
  by_cases e : j = k <;> simp [e]

theorem row_below {w w' : World} {b n : Nat} {t : TypeId} {f : Nat → Value} {B : Nat} (h : w.rowIs b t n f) (hb : Below B w w') (hB : b < B) : w'.rowIs b t n f := h.of_block (hb.block b hB)

/-! ### make -/

theorem Try.info48 : (Try.prog.info? 48).map (fun i => (i.zero, i.size, i.bytes)) = some (some (.agg #[.int .u64 0, .int .i64 0]), 2, 16) := by kernel_rfl
theorem Try.info64 : (Try.prog.info? 64).map (fun i => (i.zero, i.size, i.bytes)) = some (some (.agg #[.int .u64 0, .int .i64 0]), 2, 16) := by kernel_rfl
theorem Try.info30 : (Try.prog.info? 30).map (fun i => (i.zero, i.size, i.bytes)) = some (some (.int .u64 0), 1, 8) := by kernel_rfl
theorem Try.info3 : (Try.prog.info? 3).map (fun i => (i.zero, i.size, i.bytes)) = some (some (.int .i64 0), 1, 8) := by kernel_rfl

theorem make38 (n : Nat) (hn : n ≤ 1048576) (w : World) :
    (Instr.makeSlice 38 (.int .i64 (n : Int)) (.int .i64 (n : Int))).run Try.prog w = .ok (.slice (some ⟨w.heap.size, 0, none⟩) n n) (w.alloc (.cells (madeCells #[.int .u64 0, .int .i64 0] (n * 2)) 48)) := by
  obtain ⟨i, hi, hz⟩ := Option.map_eq_some_iff.1 Try.info48
  simp only [Prod.mk.injEq] at hz
  obtain ⟨hz, hs, hb⟩ := hz
  have hr := run_make (P := Try.prog) w 38 48 i _ Try.underlying38 hi hz .i64 .i64 n n (by omega) (Int.le_refl _) (by rw [hb]; omega) (by omega)
  simp only [Int.toNat_natCast, hs] at hr
  exact hr
theorem make60 (n : Nat) (hn : n ≤ 1048576) (w : World) :
    (Instr.makeSlice 60 (.int .i64 (n : Int)) (.int .i64 (n : Int))).run Try.prog w = .ok (.slice (some ⟨w.heap.size, 0, none⟩) n n) (w.alloc (.cells (madeCells #[.int .u64 0, .int .i64 0] (n * 2)) 64)) := by
  obtain ⟨i, hi, hz⟩ := Option.map_eq_some_iff.1 Try.info64
  simp only [Prod.mk.injEq] at hz
  obtain ⟨hz, hs, hb⟩ := hz
  have hr := run_make (P := Try.prog) w 60 64 i _ Try.underlying60 hi hz .i64 .i64 n n (by omega) (Int.le_refl _) (by rw [hb]; omega) (by omega)
  simp only [Int.toNat_natCast, hs] at hr
  exact hr
theorem make41 (n : Nat) (hn : n ≤ 1048576) (w : World) :
    (Instr.makeSlice 41 (.int .i64 (n : Int)) (.int .i64 (n : Int))).run Try.prog w = .ok (.slice (some ⟨w.heap.size, 0, none⟩) n n) (w.alloc (.cells (madeCells #[.int .u64 0] n) 30)) :=
  run_make_row' (P := Try.prog) 41 30 (.int .u64 0) 8 Try.underlying41 Try.info30 rfl .i64 .i64 n (by omega) (by omega) w
theorem make42 (n : Nat) (hn : n ≤ 1048576) (w : World) :
    (Instr.makeSlice 42 (.int .i64 (n : Int)) (.int .i64 (n : Int))).run Try.prog w = .ok (.slice (some ⟨w.heap.size, 0, none⟩) n n) (w.alloc (.cells (madeCells #[.int .i64 0] n) 3)) :=
  run_make_row' (P := Try.prog) 42 3 (.int .i64 0) 8 Try.underlying42 Try.info3 rfl .i64 .i64 n (by omega) (by omega) w

theorem made_pairs (w : World) (n : Nat) (t : TypeId) : (w.alloc (.cells (madeCells #[.int .u64 0, .int .i64 0] (n * 2)) t)).rowIs w.heap.size t (n * 2) (pv fun _ => (0, 0)) := by
  have := World.rowIs_alloc w (madeCells #[.int .u64 0, .int .i64 0] (n * 2)) t (pv fun _ => (0, 0)) (fun i hi => by
    rw [size_madeCells] at hi
    have : i % 2 = 0 ∨ i % 2 = 1 := by omega
    unfold pv
    rcases this with h | h <;> simp [madeCells, hi, h])
  rwa [size_madeCells] at this
theorem made_ints (w : World) (n : Nat) (k : IntKind) (t : TypeId) : (w.alloc (.cells (madeCells #[.int k 0] n) t)).rowIs w.heap.size t n (iv k fun _ => 0) :=
  World.rowIs_made w (.int k 0) n t

/-- What is known of a slice of slots that came in. -/
structure Came (w : World) (a : Option Addr) (b off n cap : Nat) (F : Nat → P) : Prop where
  nil : a = none → n = 0 ∧ cap = 0
  at_ : 0 < n → a = some ⟨b, off, none⟩
  cells : Pairs w b off n F
  lt : 0 < n → b < w.heap.size
theorem Came.below {w w' : World} {a : Option Addr} {b off n cap : Nat} {F : Nat → P} (h : Came w a b off n cap F) (hb : Below w.heap.size w w') : Came w' a b off n cap F :=
  ⟨h.nil, h.at_, h.cells.below hb h.lt, fun h0 => Nat.lt_of_lt_of_le (h.lt h0) hb.size⟩

/-! ### The small functions -/

set_option maxHeartbeats 400000 in
theorem takenCount_any (a : Option Addr) (b off n cap : Nat) (S : Nat → P) (w : World) (hC : Came w a b off n cap S) (hn : n ≤ 1048576) :
    Calls Try.prog 23 #[.slice a n cap] w fun e w' => e = .returned (.int .i64 ((tkL S n).length)) ∧ w' = w := by
  obtain ⟨_, ha, hp, _⟩ := hC
  go_enter Try.func23, Try.ntmps23
  go_wp2
  go_loop [3, 4] (fun c i => ∃ (k m : Nat), k ≤ n ∧ i = .int .i64 k ∧ c = .int .i64 m ∧ m ≤ k ∧ Hid ((tkL S k).length = m)) (fun _ i => n - (intOf i).toNat)
  case atStart => exact ⟨0, 0, Nat.zero_le _, rfl, rfl, Nat.le_refl _, hide rfl⟩
  case round =>
    obtain ⟨k, m, hk, rfl, rfl, hm, HT⟩ := hrel
    by_cases hlt : k < n
    · obtain rfl := ha (by omega)
      obtain ⟨h0, h1⟩ := hp k hlt
      by_cases hz : (S k).2 = 0
      · have hz' : ((S k).2 != 0) = false := by simp [hz]
        have HN : Hid ((tkL S (k + 1)).length = m) := hide (by simp [tkL, hz, HT.out])
        clear hz
        go_wp2
        go_round
        case rel => exact ⟨k + 1, m, by omega, by go_num, rfl, by omega, HN⟩
        case measure => simp [intOf]; omega
      · have hz' : ((S k).2 != 0) = true := by simp [hz]
        have HN : Hid ((tkL S (k + 1)).length = m + 1) := hide (by simp [tkL, hz, HT.out])
        clear hz
        go_wp2
        go_round
        case rel => exact ⟨k + 1, m + 1, by omega, by go_num, by go_num, by omega, HN⟩
        case measure => simp [intOf]; omega
    · go_wp2
      go_ret
      exact ⟨ret_int (by rw [← HT.out, show k = n from by omega]), rfl⟩

set_option maxHeartbeats 400000 in
theorem zzBytes22_any (a : Option Addr) (n cap : Nat) (x y k : Int) (w : World) (hn : n ≤ 9223372036854775807) :
    Calls Try.prog 22 #[.slice a n cap, .int .i64 x, .int .i64 y, .int .i64 k] w fun e w' => e = .returned (.bool (decide (n ≤ 1048576))) ∧ w' = w := by
  by_cases hb : n ≤ 1048576
  · go_enter Try.func22, Try.ntmps22
    go_wp2
    go_ret
    exact ⟨ret_bool (by simp [hb]), rfl⟩
  · have h' : (1048576 : Int) < (n : Int) := by omega
    go_enter Try.func22, Try.ntmps22
    go_wp2
    go_ret
    exact ⟨ret_bool (by simp; omega), rfl⟩

set_option maxHeartbeats 400000 in
theorem minInt_any (x y : Int) (w : World) :
    Calls Try.prog 41 #[.int .i64 x, .int .i64 y] w fun e w' => e = .returned (.int .i64 (min x y)) ∧ w' = w := by
  by_cases h : x < y
  · go_enter Try.func41, Try.ntmps41
    go_wp2
    go_ret
    exact ⟨ret_int (by omega), rfl⟩
  · go_enter Try.func41, Try.ntmps41
    go_wp2
    go_ret
    exact ⟨ret_int (by omega), rfl⟩

set_option maxHeartbeats 400000 in
theorem pow_any (e : Nat) (he : e ≤ 18) (w : World) :
    Calls Try.prog 26 #[.int .i64 ((2 ^ e : Nat) : Int)] w fun e w' => e = .returned (.bool true) ∧ w' = w := by
  have hb := and_mask_i64 ((2 ^ e : Nat) : Int) e (by omega)
  rw [Int.emod_self] at hb
  have hp : 0 < 2 ^ e := Nat.two_pow_pos e
  have hl : 2 ^ e ≤ 2 ^ 18 := Nat.pow_le_pow_right (by omega) he
  generalize 2 ^ e = z at hb hp hl ⊢
  have h1 : (0 : Int) < (z : Int) := by omega
  have h2 : (z : Int) ≤ 262144 := by omega
  go_enter Try.func26, Try.ntmps26
  go_wp2
  go_ret
  exact ⟨rfl, rfl⟩

set_option maxHeartbeats 400000 in
theorem slotLess_any (p q : P) (v : Bool) (hv : Hid (less p q = v)) (w : World) :
    Calls Try.prog 42 #[.agg #[.int .u64 p.1, .int .i64 p.2], .agg #[.int .u64 q.1, .int .i64 q.2]] w fun e w' =>
      e = .returned (.bool v) ∧ w' = (w.alloc (.cells #[.int .u64 p.1, .int .i64 p.2] 48)).alloc (.cells #[.int .u64 q.1, .int .i64 q.2] 48) := by
  by_cases h : p.1 = q.1
  · have h' : (p.1 != q.1) = false := by simp [h]
    have hv' : decide (p.2 < q.2) = v := by rw [← hv.out]; simp [less, h]
    have HV := hide hv'
    clear h hv hv'
    go_enter Try.func42, Try.ntmps42
    go_wp2
    go_ret
    exact ⟨ret_bool HV.out, rfl⟩
  · have h' : (p.1 != q.1) = true := by simp [h]
    have hv' : decide (p.1 < q.1) = v := by rw [← hv.out]; simp [less, h]
    have HV := hide hv'
    clear h hv hv'
    go_enter Try.func42, Try.ntmps42
    go_wp2
    go_ret
    exact ⟨ret_bool HV.out, rfl⟩
end Go.Proofs.Qxb6602994a.Mem
