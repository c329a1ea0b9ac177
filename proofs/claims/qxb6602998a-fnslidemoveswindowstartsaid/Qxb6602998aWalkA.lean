/- The walks of seat b6602998a: the small functions over peers. -/
import Derived.Test.Qxb6602998aRows
import Derived.WalkKit
import Derived.WalkSpells
import Derived.WalkLawsBesides
import Derived.Deep.DeepCutAuto
import Derived.Deep.OwnRows
import Derived.Deep.RegionWith
namespace Go.Proofs.Qxb6602998a
open Go.RowKit
set_option linter.unusedVariables false

theorem hide {p : Prop} (h : p) : Hid p := h
theorem ret_bool {a b : Bool} (h : a = b) : Ending.returned (.bool a) = .returned (.bool b) := by rw [h]
theorem ret_int {k : IntKind} {a b : Int} (h : a = b) : Ending.returned (.int k a) = .returned (.int k b) := by rw [h]

/-- n elements of two cells each, from offset off of block b on. -/
def Pairs (w : World) (b off n : Nat) (F : Nat → Int × Int) : Prop :=
  ∀ i, i < n → w.cell? ⟨b, off + i * 2, none⟩ = some (.int .i64 (F i).1) ∧ w.cell? ⟨b, off + i * 2 + 1, none⟩ = some (.int .i64 (F i).2)

theorem Pairs.below {w w' : World} {b off n B : Nat} {F : Nat → Int × Int} (h : Pairs w b off n F) (hb : Below B w w') (hB : 0 < n → b < B) : Pairs w' b off n F := by
  intro i hi
  have h1 := h i hi
  exact ⟨(hb.cell (p := ⟨b, off + i * 2, none⟩) (hB (by omega))).trans h1.1, (hb.cell (p := ⟨b, off + i * 2 + 1, none⟩) (hB (by omega))).trans h1.2⟩

/-- Served? -/
def sv (p : Int × Int) : Bool := decide (4 ≤ wrap64 (p.1 - p.2))

set_option maxHeartbeats 400000 in
theorem served_any (x y : Int) (w : World) :
    Calls Try.prog 23 #[.agg #[.int .i64 x, .int .i64 y]] w fun e w' => e = .returned (.bool (sv (x, y))) ∧ w' = w.alloc (.cells #[.int .i64 x, .int .i64 y] 29) := by
  go_enter Try.func23, Try.ntmps23
  go_wp2
  go_ret
  exact ⟨rfl, rfl⟩

theorem served_at (p : Int × Int) (v : Bool) (h : sv p = v) (w : World) :
    Calls Try.prog 23 #[.agg #[.int .i64 p.1, .int .i64 p.2]] w fun e w' => e = .returned (.bool v) ∧ w' = w.alloc (.cells #[.int .i64 p.1, .int .i64 p.2] 29) := by
  rw [← h]; exact served_any p.1 p.2 w

set_option maxHeartbeats 400000 in
theorem servedB1_any (x y : Int) (w : World) :
    Calls Try.prog 12 #[.agg #[.int .i64 x, .int .i64 y]] w fun e w' => e = .returned (.bool (sv (x, y))) ∧ w' = w.alloc (.cells #[.int .i64 x, .int .i64 y] 29) := by
  go_enter Try.func12, Try.ntmps12
  go_wp2
  go_ret
  exact ⟨rfl, rfl⟩

theorem servedB1_at (p : Int × Int) (v : Bool) (h : sv p = v) (w : World) :
    Calls Try.prog 12 #[.agg #[.int .i64 p.1, .int .i64 p.2]] w fun e w' => e = .returned (.bool v) ∧ w' = w.alloc (.cells #[.int .i64 p.1, .int .i64 p.2] 29) := by
  rw [← h]; exact servedB1_any p.1 p.2 w

set_option maxHeartbeats 400000 in
theorem mayTake_any (h : Int) (w : World) :
    Calls Try.prog 14 #[.int .i64 h] w fun e w' => e = .returned (.bool (decide (h < 80))) ∧ w' = w := by
  go_enter Try.func14, Try.ntmps14
  go_wp2
  go_ret
  exact ⟨rfl, rfl⟩

/-- How many of the first j are served. -/
def cnt (F : Nat → Int × Int) : Nat → Nat
  | 0 => 0
  | j + 1 => cnt F j + if sv (F j) then 1 else 0
theorem cnt_le (F : Nat → Int × Int) (j : Nat) : cnt F j ≤ j := by
  induction j with
  | zero => simp [cnt]
  | succ j ih => simp only [cnt]; split <;> omega

set_option maxHeartbeats 1000000 in
theorem wanted_any (h : Int) (a : Option Addr) (b n cap : Nat) (F : Nat → Int × Int) (w : World) (h0 : 0 ≤ h) (h1 : h ≤ 9223372036854775807) (hn : n ≤ 1048576)
    (ha : 0 < n → a = some ⟨b, 0, none⟩) (hp : Pairs w b 0 n F) (hb : 0 < n → b < w.heap.size) :
    Calls Try.prog 15 #[.int .i64 h, .slice a n cap] w fun e w' => e = .returned (.int .i64 (max (80 - h) 0 + cnt F n)) ∧ Below w.heap.size w w' := by
  obtain ⟨m, hm⟩ : ∃ m : Int, max (80 - h) 0 = m := ⟨_, rfl⟩
  have hm0 : 0 ≤ m := by omega
  have hm1 : m ≤ 80 := by omega
  have HM := hide hm
  rw [hm]
  clear hm
  go_enter Try.func15, Try.ntmps15
  go_upto_region 1 with fail
  go_cut [5] (fun v wx => v = .int .i64 m ∧ wx = w)
  case first =>
    go_wp2
    all_goals (go_meet; exact ⟨by congr 1; have := HM.out; omega, rfl⟩)
  case rest =>
  obtain ⟨rfl, rfl⟩ := hcut
  go_wp2
  go_loopw [5, 13] (fun v i wr => ∃ k : Nat, k ≤ n ∧ i = .int .i64 k ∧ v = .int .i64 (m + cnt F k) ∧ Below wc.heap.size wc wr) (fun _ i _ => n - (intOf i).toNat)
  case atStart => exact ⟨0, Nat.zero_le _, rfl, by simp [cnt], Below.refl _ _⟩
  case round =>
    obtain ⟨k, hk, rfl, rfl, hnx⟩ := hrel
    have hc := cnt_le F k
    by_cases hlt : k < n
    · obtain rfl := ha (by omega)
      have hcx := (hp.below hnx hb) k hlt
      rw [Nat.zero_add] at hcx
      obtain ⟨c0, c1⟩ := hcx
      have HC : Hid (cnt F (k + 1) = cnt F k + if sv (F k) then 1 else 0) := hide rfl
      have hsz := hnx.size
      by_cases hsv : sv (F k) = true
      · have HV := hide hsv
        clear hsv
        go_wp2_with fail
        refine (served_at (F k) true HV.out _).mono ?_
        rintro e w' ⟨rfl, rfl⟩
        go_wp2_with fail
        go_roundw
        case rel => exact ⟨k + 1, by omega, by go_num, by congr 1; rw [HC.out, HV.out]; simp; omega, (hnx.alloc hsz _).alloc (by simp; omega) _⟩
        case measure => simp [intOf]; omega
      · have HV : Hid (sv (F k) = false) := hide (by simpa using hsv)
        clear hsv
        go_wp2_with fail
        refine (served_at (F k) false HV.out _).mono ?_
        rintro e w' ⟨rfl, rfl⟩
        go_wp2_with fail
        go_roundw
        case rel => exact ⟨k + 1, by omega, by go_num, by congr 1; rw [HC.out, HV.out]; simp, (hnx.alloc hsz _).alloc (by simp; omega) _⟩
        case measure => simp [intOf]; omega
    · go_wp2
      go_ret
      exact ⟨ret_int (by rw [show k = n from by omega]), hnx⟩
end Go.Proofs.Qxb6602998a
