/- The walks of seat b6602994a: ZZReserve. -/
import Derived.Test.Qxb6602994aMemD
namespace Go.Proofs.Qxb6602994a.Mem
open Go.RowKit Tab
set_option linter.unusedVariables false

/-- What reserve leaves, of m slots S, where 'need' is asked for: z slots R. -/
def Left (m : Nat) (S : Nat → P) (need : Int) (z : Nat) (R : Nat → P) : Prop :=
  (need ≤ m ∧ z = m ∧ R = S) ∨ ((m : Int) < need ∧ Sized z need ∧ Table S m z R)

/-- The index struct at block X, its slots somewhere else. -/
structure Held (w : World) (X : Nat) (m : Nat) (S : Nat → P) (n sink : Int) (asl : Option Addr) (csl bo : Nat) : Prop where
  ix : Ix w X (.slice asl m csl) n sink
  at_ : 0 < m → asl = some ⟨bo, 0, none⟩
  cells : Pairs w bo 0 m S
  lt : 0 < m → bo < w.heap.size ∧ bo ≠ X
  x : X < w.heap.size

theorem reserve_any (X bo : Nat) (asl : Option Addr) (m csl : Nat) (n sink k : Int) (S : Nat → P) (w : World) (hH : Held w X m S n sink asl csl bo)
    (hn0 : 0 ≤ n) (hn1 : 2 * n ≤ m) (hk0 : -65536 ≤ k) (hk1 : k ≤ 65536) (hm : m ≤ 65536) (hT : n = (tkL S m).length) :
    Calls Try.prog 35 #[.pointer (some ⟨X, 0, none⟩), .int .i64 k] w fun e w' => e = .returned (.tuple #[]) ∧
      ∃ (z : Nat) (R : Nat → P) (asl' : Option Addr) (csl' bo' : Nat), Left m S (2 * (n + k)) z R ∧ Held w' X z R n sink asl' csl' bo' ∧ Below X w w' ∧ z ≤ 262144 := by
  by_cases h : 2 * (n + k) ≤ m
  · refine (reserve_stay X asl m csl n sink k w hH.ix hn0 (by omega) hk0 hk1 hm h).mono fun e w' ⟨he, q, hw⟩ => ?_
    subst hw
    refine ⟨he, m, S, asl, csl, bo, .inl ⟨h, rfl, rfl⟩, ⟨⟨hH.ix.c0, hH.ix.c1, hH.ix.c2, hH.ix.f0⟩, hH.at_, hH.cells, hH.lt, hH.x⟩, ⟨rfl, rfl, rfl, Nat.le_refl _, fun _ _ => rfl⟩, by omega⟩
  · refine (reserve_grow X bo asl m csl n sink k S w hH.ix hH.x hH.at_ hH.cells hH.lt hn0 hn1 hk0 hk1 hm hT (by omega)).mono fun e w' ⟨he, z, Y, R, hs, ht, hr, hYX, hi, hap⟩ => ?_
    exact ⟨he, z, R, _, z, Y, .inr ⟨by omega, hs, ht⟩, ⟨hi, fun _ => rfl, pairs_of_row hr, fun _ => ⟨hr.lt, hYX⟩, Nat.lt_of_lt_of_le hH.x hap.size⟩, hap.below (Nat.le_of_lt hH.x), hs.hi⟩

set_option maxRecDepth 100000 in
set_option maxHeartbeats 4000000 in
theorem zzReserve_any (ah ap : Option Addr) (bh bp m c : Nat) (n sink k : Int) (S : Nat → P) (w : World) (hS : Split w ah ap bh bp m S) (hc : ah = none → c = 0)
    (hn0 : 0 ≤ n) (hn1 : 2 * n ≤ m) (hk0 : -65536 ≤ k) (hk1 : k ≤ 65536) (hm : m ≤ 65536) (hT : n = (tkL S m).length) :
    Calls Try.prog 25 #[.slice ah m c, .slice ap m c, .int .i64 n, .int .i64 sink, .int .i64 k] w fun e w' =>
      ∃ (z oh op : Nat) (R : Nat → P), e = .returned (.tuple #[.slice (some ⟨oh, 0, none⟩) z z, .slice (some ⟨op, 0, none⟩) z z, .int .i64 n, .int .i64 sink]) ∧
        Left m S (2 * (n + k)) z R ∧ z ≤ 262144 ∧ Ints .u64 w' oh z (fun i => (R i).1) ∧ Ints .i64 w' op z (fun i => (R i).2) ∧ oh < w'.heap.size ∧ op < w'.heap.size ∧ Below w.heap.size w w' := by
  have HT := hide hT
  have HS := hide hS
  clear hT hS
  go_enter Try.func25, Try.ntmps25
  go_upto_if 24 with fail
  go_cut [24] (fun _ wx => (∃ (asl : Option Addr) (csl bo : Nat), Hid (Held wx w.heap.size m S n sink asl csl bo)) ∧ Below w.heap.size w wx)
  case first =>
    cases ah with
    | none =>
      have hm0 := HS.out.nil0 rfl
      clear hc
      subst hm0
      have HH : Hid (Held (w.alloc (.cells #[.slice none 0 0, .int .i64 n, .int .i64 sink] 62)) w.heap.size 0 S n sink none 0 0) := hide
        ⟨⟨by simp, by simp, by simp, by simp⟩, by omega, fun i hi => by omega, by omega, by simp⟩
      go_wp2
      go_meet
      exact ⟨⟨none, 0, 0, HH⟩, (Below.refl _ _).alloc (Nat.le_refl _) _⟩
    | some x =>
      obtain ⟨rfl, hbh, hIh⟩ := HS.out.h x rfl
      obtain ⟨y, hy⟩ : ∃ y, ap = some y := by
        cases ap with
        | none => exact absurd (HS.out.nil.2 rfl) (by simp)
        | some y => exact ⟨y, rfl⟩
      subst hy
      obtain ⟨rfl, hbp, hIp⟩ := HS.out.p y rfl
      clear HS hc
      have hmk := fun wx => make60 m (by omega) wx
      have HRow := hide (made_pairs (w.alloc (.cells #[.slice (some ⟨w.heap.size + 1, 0, none⟩) m m, .int .i64 n, .int .i64 sink] 62)) m 64)
      go_wp2
      go_loopw [15] (fun v wr => ∃ j : Nat, j ≤ m ∧ v = .int .i64 j ∧ wr.rowIs (w.heap.size + 1) 64 (m * 2) (pv fun i => if i < j then S i else (0, 0)) ∧ Ix wr w.heap.size (.slice (some ⟨w.heap.size + 1, 0, none⟩) m m) n sink ∧ Below w.heap.size w wr) (fun v _ => m - (intOf v).toNat)
      case atStart => exact ⟨0, Nat.zero_le _, rfl, by simpa using HRow.out, ⟨by simp, by simp, by simp, by simp⟩, ((Below.refl _ _).alloc (Nat.le_refl _) _).alloc (by simp) _⟩
      case round =>
        clear HRow hmk
        obtain ⟨j, hj, rfl, hrow, hix, hnx⟩ := hrel
        by_cases hlt : j < m
        · have q0 := (hIh.below hnx (fun _ => hbh)) j hlt
          have q1 := (hIp.below hnx (fun _ => hbp)) j hlt
          obtain ⟨x0, x1, x2, xf⟩ := hix
          have d0 := hrow.cell (i := j * 2) (by omega)
          have d1 := hrow.cell (i := j * 2 + 1) (by omega)
          have g0 := hrow.frozen (j * 2)
          have g1 := hrow.frozen (j * 2 + 1)
          have HR := hide hrow
          clear hrow
          have i1 : (j : Int) < (m : Int) := by omega
          have i0 : (0 : Int) ≤ (j : Int) := by omega
          go_wp2
          go_region
          all_goals go_wp2
          go_roundw
          case rel =>
            (repeat apply Exists.intro)
            exact ⟨⟨j + 1, by omega, by go_num, (row_fill (G := S) HR.out).drew, (Ix.setOther (Ix.setOther ⟨x0, x1, x2, xf⟩ (p := ⟨w.heap.size + 1, j * 2, none⟩) (by simp) _) (p := ⟨w.heap.size + 1, j * 2 + 1, none⟩) (by simp) _).drew, ((hnx.setCell (p := ⟨w.heap.size + 1, j * 2, none⟩) (by simp) _).setCell (p := ⟨w.heap.size + 1, j * 2 + 1, none⟩) (by simp) _).drew⟩, rfl⟩
          case measure => simp [intOf]; omega
        · go_wp2
          go_meet
          exact ⟨⟨_, m, w.heap.size + 1, hide ⟨hix, fun _ => rfl, pairs_of_row (row_full hrow (by omega)), fun _ => ⟨hrow.lt, by omega⟩, by have := hrow.lt; omega⟩⟩, hnx⟩
  case rest =>
  obtain ⟨⟨asl, csl, bo, HH⟩, hnx⟩ := hcut
  clear HS hc
  go_wp2_with fail
  refine (reserve_any w.heap.size bo asl m csl n sink k S wc HH.out hn0 hn1 hk0 hk1 hm HT.out).mono ?_
  rintro e w2 ⟨rfl, z, R, asl2, csl2, bo2, hL, hH2, hB2, hz⟩
  have HL := hide hL
  have hb0 : Below w.heap.size w w2 := hnx.trans hB2
  have hcs := hnx.size
  clear hL HH hnx hB2 HT
  obtain ⟨⟨x0, x1, x2, xf⟩, ha2, hp2, hl2, hx2⟩ := hH2
  have hmk := fun wx => make41 z (by omega) wx
  have hmk2 := fun wx => make42 z (by omega) wx
  have HR1 := hide ((made_ints w2 z .u64 30).alloc (.cells (madeCells #[.int .i64 0] z) 3))
  have HR2 := hide (made_ints (w2.alloc (.cells (madeCells #[.int .u64 0] z) 30)) z .i64 3)
  go_wp2_with fail
  go_loopw [18] (fun v wr => ∃ j : Nat, j ≤ z ∧ v = .int .i64 j ∧ wr.rowIs w2.heap.size 30 z (iv .u64 fun i => if i < j then (R i).1 else 0) ∧ wr.rowIs (w2.heap.size + 1) 3 z (iv .i64 fun i => if i < j then (R i).2 else 0) ∧ Below w2.heap.size w2 wr) (fun v _ => z - (intOf v).toNat)
  case atStart => exact ⟨0, Nat.zero_le _, rfl, by simpa using HR1.out, by simpa using HR2.out, ((Below.refl _ _).alloc (Nat.le_refl _) _).alloc (by simp) _⟩
  case round =>
    clear HR1 HR2 hmk hmk2
    obtain ⟨j, hj, rfl, hr1, hr2, hnx⟩ := hrel
    have y0 := (hnx.cell (p := ⟨w.heap.size, 0, none⟩) hx2).trans x0
    have y1 := (hnx.cell (p := ⟨w.heap.size, 1, none⟩) hx2).trans x1
    have y2 := (hnx.cell (p := ⟨w.heap.size, 2, none⟩) hx2).trans x2
    by_cases hlt : j < z
    · obtain rfl := ha2 (by omega)
      obtain ⟨hbo, hbx⟩ := hl2 (by omega)
      obtain ⟨q0, q1⟩ := (hp2.below hnx (fun _ => hbo)) j hlt
      rw [Nat.zero_add] at q0 q1
      have d0 := hr1.cell hlt
      have d1 := hr2.cell hlt
      have g0 := hr1.frozen j
      have g1 := hr2.frozen j
      have HR1 := hide hr1
      have HR2 := hide hr2
      clear hr1 hr2 x0 x1 x2 xf
      have i1 : (j : Int) < (z : Int) := by omega
      have i0 : (0 : Int) ≤ (j : Int) := by omega
      have n1 : bo2 ≠ w2.heap.size := by omega
      have n2 : w.heap.size ≠ w2.heap.size := by omega
      go_wp2
      go_roundw
      case rel => exact ⟨j + 1, by omega, by go_num, (rowI_fill (g := fun i => (R i).1) HR1.out).setOther (by simp) _, rowI_fill (g := fun i => (R i).2) (HR2.out.setOther (by simp) _), (hnx.setCell (Nat.le_refl _) _).setCell (by simp) _⟩
      case measure => simp [intOf]; omega
    · clear x0 x1 x2 xf
      have HR1 := hide hr1
      have HR2 := hide hr2
      clear hr1 hr2
      go_wp2
      go_region
      all_goals go_wp2
      all_goals
        refine bodyPost_ret (v := .tuple #[.slice (some ⟨w2.heap.size, 0, none⟩) z z, .slice (some ⟨w2.heap.size + 1, 0, none⟩) z z, .int .i64 n, .int .i64 sink]) (by simp [results, Try.results25, go_sem]) rfl ⟨z, _, _, R, rfl, HL.out, hz, ?_, ?_, ?_, ?_, ?_⟩
        · exact ints_of_row (rowI_full HR1.out (by omega)).drew
        · exact ints_of_row (rowI_full HR2.out (by omega)).drew
        · exact HR1.out.lt
        · exact HR2.out.lt
        · exact (hb0.trans (hnx.mono (by omega))).drew
end Go.Proofs.Qxb6602994a.Mem
