/- The walks of seat b6602994a: sortSlots. -/
import Derived.Test.Qxb6602994aMemF
namespace Go.Proofs.Qxb6602994a.Mem
open Go.RowKit Tab
set_option linter.unusedVariables false

theorem merge_left {Fs : Nat → P} {p mid q hi : Nat} (h : p < mid) (h2 : hi ≤ q ∨ le (Fs p) (Fs q) = true) :
    (seg Fs p mid).merge (seg Fs q hi) le = Fs p :: (seg Fs (p + 1) mid).merge (seg Fs q hi) le := by
  by_cases hq : q < hi
  · rcases h2 with h2 | h2
    · omega
    · rw [seg_cons Fs h, seg_cons Fs hq, List.cons_merge_cons, if_pos h2]
  · rw [seg_nil Fs (show hi ≤ q by omega), List.merge_right, List.merge_right, seg_cons Fs h]
theorem merge_right' {Fs : Nat → P} {p mid q hi : Nat} (h : q < hi) (h2 : mid ≤ p ∨ le (Fs p) (Fs q) = false) :
    (seg Fs p mid).merge (seg Fs q hi) le = Fs q :: (seg Fs p mid).merge (seg Fs (q + 1) hi) le := by
  by_cases hp : p < mid
  · rcases h2 with h2 | h2
    · omega
    · rw [seg_cons Fs hp, seg_cons Fs h, List.cons_merge_cons, h2]; rfl
  · rw [seg_nil Fs (show mid ≤ p by omega), List.nil_merge, List.nil_merge, seg_cons Fs h]

theorem minInt_nat (x y : Int) (r : Nat) (h : Hid (min x y = (r : Int))) (w : World) :
    Calls Try.prog 41 #[.int .i64 x, .int .i64 y] w fun e w' => e = .returned (.int .i64 (r : Int)) ∧ w' = w :=
  (minInt_any x y w).mono fun e w' ⟨h1, h2⟩ => ⟨by rw [h1, h.out], h2⟩

theorem put_step {Fd : Nat → P} {lo o : Nat} {L M rest : List P} {x : P} (ho : lo ≤ o) (h : seg Fd lo o ++ L = M) (hL : L = x :: rest) :
    seg (upd Fd o x) lo (o + 1) ++ rest = M := by
  rw [seg_snoc _ ho, upd_same, seg_congr (F := upd Fd o x) (G := Fd) (fun i h1 h2 => upd_other _ _ (by omega)), ← h, hL, List.append_assoc]; rfl

/-- The test of the merge: the left one is taken. -/
def takeL (Fs : Nat → P) (p mid q hi : Nat) : Bool := decide (p < mid) && (decide (hi ≤ q) || !less (Fs q) (Fs p))

set_option maxRecDepth 100000 in
set_option maxHeartbeats 8000000 in
theorem sort_any (b n : Nat) (F : Nat → P) (w : World) (hn : n ≤ 1048576) (hp : Pairs w b 0 n F) (hb : b < w.heap.size) :
    Calls Try.prog 36 #[.slice (some ⟨b, 0, none⟩) n n] w fun e w' =>
      ∃ (s : Nat) (G : Nat → P), e = .returned (.slice (some ⟨s, 0, none⟩) n n) ∧ Pairs w' s 0 n G ∧ s < w'.heap.size ∧ Below w.heap.size w w' ∧
        (seg G 0 n).Perm (seg F 0 n) ∧ (seg G 0 n).Pairwise (fun x y => le x y = true) := by
  have hmk := fun wx => make38 n hn wx
  have HR1 := hide (made_pairs w n 48)
  have HB1 : Hid (Below w.heap.size w (w.alloc (.cells (madeCells #[.int .u64 0, .int .i64 0] (n * 2)) 48))) := hide ((Below.refl _ _).alloc (Nat.le_refl _) _)
  go_enter Try.func36, Try.ntmps36
  go_upto_region 3 with fail
  generalize (w.alloc (.cells (madeCells #[.int .u64 0, .int .i64 0] (n * 2)) 48)) = w1 at HR1 HB1 ⊢
  go_wp2
  go_loopw [5] (fun v wr => ∃ j : Nat, j ≤ n ∧ v = .int .i64 j ∧ wr.rowIs w.heap.size 48 (n * 2) (pv fun i => if i < j then F i else (0, 0)) ∧ Below w.heap.size w wr) (fun v _ => n - (intOf v).toNat)
  case atStart => exact ⟨0, Nat.zero_le _, rfl, by simpa using HR1.out, HB1.out⟩
  case round =>
    clear HR1 HB1
    obtain ⟨j, hj, rfl, hrow, hnx⟩ := hrel
    by_cases hlt : j < n
    · obtain ⟨q0, q1⟩ := (hp.below hnx (fun _ => hb)) j hlt
      rw [Nat.zero_add] at q0 q1
      have d0 := hrow.cell (i := j * 2) (by omega)
      have d1 := hrow.cell (i := j * 2 + 1) (by omega)
      have g0 := hrow.frozen (j * 2)
      have g1 := hrow.frozen (j * 2 + 1)
      have HR := hide hrow
      clear hrow
      have i1 : (j : Int) < (n : Int) := by omega
      have i0 : (0 : Int) ≤ (j : Int) := by omega
      go_wp2
      go_roundw
      case rel => exact ⟨j + 1, by omega, by go_num, row_fill (G := F) HR.out, (hnx.setCell (Nat.le_refl _) _).setCell (Nat.le_refl _) _⟩
      case measure => simp [intOf]; omega
    · have hsz := hnx.size
      have HRs : Hid ((wr.alloc (.cells (madeCells #[.int .u64 0, .int .i64 0] (n * 2)) 48)).rowIs w.heap.size 48 (n * 2) (pv F)) := hide ((row_full hrow (by omega)).alloc _)
      have HRd := hide (made_pairs wr n 48)
      have HB : Hid (Below w.heap.size w (wr.alloc (.cells (madeCells #[.int .u64 0, .int .i64 0] (n * 2)) 48))) := hide (hnx.alloc hsz _)
      have hsd := hrow.lt
      clear hp hb hrow
      go_upto_region 8 with fail
      generalize (wr.alloc (.cells (madeCells #[.int .u64 0, .int .i64 0] (n * 2)) 48)) = w2 at HRs HRd HB ⊢
      obtain ⟨d0, HD0⟩ : ∃ d0, Hid (wr.heap.size = d0) := ⟨_, hide rfl⟩
      rw [HD0.out] at HRd hsd hsz ⊢
      clear hnx HD0 hmk hlt hj
      go_wp2
      go_loopw [4, 6, 7] (fun v4 v6 v7 wr => ∃ (s d wd : Nat) (Fs Fd : Nat → P), v4 = .slice (some ⟨s, 0, none⟩) n n ∧ v6 = .slice (some ⟨d, 0, none⟩) n n ∧ v7 = .int .i64 wd ∧ 1 ≤ wd ∧ wd ≤ 4194304 ∧ s ≠ d ∧ w.heap.size ≤ s ∧ w.heap.size ≤ d ∧
        wr.rowIs s 48 (n * 2) (pv Fs) ∧ wr.rowIs d 48 (n * 2) (pv Fd) ∧ Hid (Blk Fs n wd) ∧ Hid ((seg Fs 0 n).Perm (seg F 0 n)) ∧ Below w.heap.size w wr) (fun _ _ v _ => n - (intOf v).toNat)
      case atStart => exact ⟨w.heap.size, d0, 1, F, _, rfl, rfl, rfl, by omega, by omega, by omega, by omega, by omega, HRs.out, HRd.out, hide (blk_one F n), hide (List.Perm.refl _), HB.out⟩
      case round =>
        clear HRs HRd HB hsd hsz
        obtain ⟨s, d, wd, Fs, Fd0, rfl, rfl, rfl, hw1, hwm, hne, hws, hwd, hrs, hrd, HBk, HPm, hnx⟩ := hrel
        by_cases hlt : wd < n
        · have i1 : (wd : Int) < (n : Int) := by omega
          have HRs := hide hrs
          have HRd := hide hrd
          have HB := hide hnx
          clear hrs hrd hnx
          go_upto_region 11 with fail
          go_wp2
          go_loopw [8] (fun v wr => ∃ (lo : Nat) (Fd : Nat → P), v = .int .i64 lo ∧ lo ≤ 8388608 ∧ Hid (Pass Fs Fd n wd lo) ∧
            wr.rowIs s 48 (n * 2) (pv Fs) ∧ wr.rowIs d 48 (n * 2) (pv Fd) ∧ Below w.heap.size w wr) (fun v _ => n - (intOf v).toNat)
          case atStart => exact ⟨0, Fd0, rfl, by omega, hide (pass_new _ _ _ _), HRs.out, HRd.out, HB.out⟩
          case round =>
            clear HRs HRd HB i1
            obtain ⟨lo, Fd, rfl, hlo, HPs, hrs, hrd, hnx⟩ := hrel
            by_cases hlt2 : lo < n
            · have i1 : (lo : Int) < (n : Int) := by omega
              have HRs := hide hrs
              have HRd := hide hrd
              have HB := hide hnx
              clear hrs hrd hnx
              obtain ⟨mid, HMid⟩ : ∃ mid, Hid (min (lo + wd) n = mid) := ⟨_, hide rfl⟩
              obtain ⟨hi, HHi⟩ : ∃ hi, Hid (min (lo + 2 * wd) n = hi) := ⟨_, hide rfl⟩
              have hmid : lo ≤ mid ∧ mid ≤ n := by have := HMid.out; omega
              have hhi : mid ≤ hi ∧ hi ≤ n := by have := HHi.out; have := HMid.out; omega
              have HM1 : Hid (min ((lo : Int) + (wd : Int)) (n : Int) = (mid : Int)) := hide (by have := HMid.out; omega)
              have HM2 : Hid (min ((lo : Int) + 2 * (wd : Int)) (n : Int) = (hi : Int)) := hide (by have := HHi.out; omega)
              go_wp2_with fail
              refine (minInt_nat _ _ mid HM1 _).mono ?_
              rintro e w3 ⟨rfl, rfl⟩
              go_wp2_with fail
              refine (minInt_nat _ _ hi HM2 _).mono ?_
              rintro e w4 ⟨rfl, rfl⟩
              clear HM1 HM2
              go_upto_region 18 with fail
              go_wp2
              go_loopw [11, 12, 13] (fun v11 v12 v13 wr => ∃ (p q o : Nat) (Fe : Nat → P), v11 = .int .i64 p ∧ v12 = .int .i64 q ∧ v13 = .int .i64 o ∧ lo ≤ p ∧ p ≤ mid ∧ mid ≤ q ∧ q ≤ hi ∧ o + mid = p + q ∧
                Hid (seg Fe lo o ++ (seg Fs p mid).merge (seg Fs q hi) le = (seg Fs lo mid).merge (seg Fs mid hi) le) ∧ Hid (∀ i, i < lo → Fe i = Fd i) ∧
                wr.rowIs s 48 (n * 2) (pv Fs) ∧ wr.rowIs d 48 (n * 2) (pv Fe) ∧ Below w.heap.size w wr) (fun _ _ v _ => hi - (intOf v).toNat)
              case atStart => exact ⟨lo, mid, lo, Fd, rfl, rfl, rfl, by omega, by omega, by omega, by omega, by omega, hide (by rw [seg_nil Fd (Nat.le_refl lo)]; rfl), hide (fun _ _ => rfl), HRs.out, HRd.out, HB.out⟩
              case round =>
                clear HRs HRd HB i1
                obtain ⟨p, q, o, Fe, rfl, rfl, rfl, hp0, hp1, hq0, hq1, ho, HM, HE, hrs, hrd, hnx⟩ := hrel
                by_cases hlt3 : o < hi
                · have i1 : (o : Int) < (hi : Int) := by omega
                  have HRs := hide hrs
                  have HRd := hide hrd
                  have hsz := hnx.size
                  have HB := hide hnx
                  go_upto_region 21 with fail
                  clear i1
                  go_cut [82] (fun v wx => (∃ m : Bool, v = .bool m ∧ Hid (takeL Fs p mid q hi = m)) ∧ wx.rowIs s 48 (n * 2) (pv Fs) ∧ wx.rowIs d 48 (n * 2) (pv Fe) ∧ Below w.heap.size w wx)
                  case first =>
                    clear hrd hnx
                    by_cases c1 : p < mid
                    · have e1 : decide ((p : Int) < (mid : Int)) = true := decide_eq_true (by omega)
                      by_cases c2 : hi ≤ q
                      · have e2 : decide ((hi : Int) ≤ (q : Int)) = true := decide_eq_true (by omega)
                        clear hrs
                        refine wp_region_noPanic ?_
                        refine wp_region_any (by kernel_rfl) ?_
                        change wpAny _ _ _ _ _ _ _ (World.drew _)
                        refine wpAny_take (i := 0) (v := ?_) rfl (by kernel_rfl) (by kernel_rfl) (by kernel_rfl) (fun _ _ _ h => h) (Or.inl ⟨by rfl, by intro wz; go_simp; with_reducible rfl⟩) ?_
                        go_simp
                        refine wpAny_take (i := 1) (v := ?_) rfl (by kernel_rfl) (by kernel_rfl) (by kernel_rfl) (fun _ _ _ h => h) (Or.inl ⟨by rfl, by intro wz; go_simp; with_reducible rfl⟩) ?_
                        go_simp
                        refine wpAny_take (i := 2) (v := ?_) rfl (by kernel_rfl) (by kernel_rfl) (by kernel_rfl) (fun _ _ _ h => h) (Or.inl ⟨by rfl, by intro wz; go_simp; with_reducible rfl⟩) ?_
                        go_simp
                        refine wpAny_take (i := 3) (v := ?_) rfl (by kernel_rfl) (by kernel_rfl) (by kernel_rfl) (fun _ _ _ h => h) (Or.inl ⟨by rfl, by intro wz; go_simp; with_reducible rfl⟩) ?_
                        go_simp
                        refine wpAny_take (i := 4) (v := ?_) rfl (by kernel_rfl) (by kernel_rfl) (by kernel_rfl) (fun _ _ _ h => h) (Or.inl ⟨by rfl, by intro wz; go_simp; with_reducible rfl⟩) ?_
                        go_simp
                        refine wpAny_take (i := 5) (v := ?_) rfl (by kernel_rfl) (by kernel_rfl) (by kernel_rfl) (fun _ _ _ h => h) (Or.inl ⟨by rfl, by intro wz; go_simp; with_reducible rfl⟩) ?_
                        go_simp
                        refine wpAny_take (i := 6) (v := ?_) rfl (by kernel_rfl) (by kernel_rfl) (by kernel_rfl) (fun _ _ _ h => h) (Or.inl ⟨by rfl, by intro wz; go_simp; with_reducible rfl⟩) ?_
                        go_simp
                        refine wpAny_take (i := 7) (v := ?_) rfl (by kernel_rfl) (by kernel_rfl) (by kernel_rfl) (fun _ _ _ h => h) (Or.inl ⟨by rfl, by intro wz; go_simp; with_reducible rfl⟩) ?_
                        go_simp
                        refine wpAny_take (i := 8) (v := undef) rfl (by kernel_rfl) (by kernel_rfl) (by kernel_rfl) (fun _ _ _ h => h) (Or.inr ⟨by rfl, rfl⟩) ?_
                        go_simp
                        refine wpAny_take (i := 9) (v := undef) rfl (by kernel_rfl) (by kernel_rfl) (by kernel_rfl) (fun _ _ _ h => h) (Or.inr ⟨by rfl, rfl⟩) ?_
                        go_simp
                        refine wpAny_take (i := 10) (v := undef) rfl (by kernel_rfl) (by kernel_rfl) (by kernel_rfl) (fun _ _ _ h => h) (Or.inr ⟨by rfl, rfl⟩) ?_
                        go_simp
                        refine wpAny_take (i := 11) (v := undef) rfl (by kernel_rfl) (by kernel_rfl) (by kernel_rfl) (fun _ _ _ h => h) (Or.inr ⟨by rfl, rfl⟩) ?_
                        go_simp
                        refine wpAny_take (i := 12) (v := undef) rfl (by kernel_rfl) (by kernel_rfl) (by kernel_rfl) (fun _ _ _ h => h) (Or.inr ⟨by rfl, rfl⟩) ?_
                        go_simp
                        refine wpAny_take (i := 13) (v := undef) rfl (by kernel_rfl) (by kernel_rfl) (by kernel_rfl) (fun _ _ _ h => h) (Or.inr ⟨by rfl, rfl⟩) ?_
                        go_simp
                        refine wpAny_take (i := 14) (v := undef) rfl (by kernel_rfl) (by kernel_rfl) (by kernel_rfl) (fun _ _ _ h => h) (Or.inr ⟨by rfl, rfl⟩) ?_
                        go_simp
                        refine wpAny_take (i := 15) (v := undef) rfl (by kernel_rfl) (by kernel_rfl) (by kernel_rfl) (fun _ _ _ h => h) (Or.inr ⟨by rfl, rfl⟩) ?_
                        go_simp
                        refine wpAny_take (i := 16) (v := undef) rfl (by kernel_rfl) (by kernel_rfl) (by kernel_rfl) (fun _ _ _ h => h) (Or.inr ⟨by rfl, rfl⟩) ?_
                        go_simp
                        refine wpAny_take (i := 17) (v := undef) rfl (by kernel_rfl) (by kernel_rfl) (by kernel_rfl) (fun _ _ _ h => h) (Or.inr ⟨by rfl, rfl⟩) ?_
                        go_simp
                        refine wpAny_ready (rs := [18]) (by kernel_rfl) (by simp) ?_
                        refine AllReady.cons rfl (fun K hK => ?_) AllReady.nil
                        go_simp
                        refine hK _ _ ?_; clear hK K
                        refine wpAny_ready (rs := [19]) (by kernel_rfl) (by simp) ?_
                        refine AllReady.cons rfl (fun K hK => ?_) AllReady.nil
                        go_simp
                        refine hK _ _ ?_; clear hK K
                        refine wpAny_done (by kernel_rfl) ?_ _
                        refine NoPanic.normal ?_
                        go_wp2_with fail
                        go_meet
                        exact ⟨⟨true, rfl, hide (by simp [takeL, c1, c2])⟩, HRs.out.drew, HRd.out.drew, HB.out.drew⟩
                      · have e2 : decide ((hi : Int) ≤ (q : Int)) = false := decide_eq_false (by omega)
                        have q0 := hrs.cell (i := q * 2) (by omega)
                        have q1 := hrs.cell (i := q * 2 + 1) (by omega)
                        have p0 := hrs.cell (i := p * 2) (by omega)
                        have p1 := hrs.cell (i := p * 2 + 1) (by omega)
                        rw [pv_even] at q0 p0
                        rw [pv_odd] at q1 p1
                        obtain ⟨lv, HLv⟩ : ∃ lv, Hid (less (Fs q) (Fs p) = lv) := ⟨_, hide rfl⟩
                        clear hrs
                        have j0 : (0 : Int) ≤ (p : Int) := by omega
                        have j1 : (p : Int) < (n : Int) := by omega
                        have j2 : (0 : Int) ≤ (q : Int) := by omega
                        have j3 : (q : Int) < (n : Int) := by omega
                        refine wp_region_noPanic ?_
                        refine wp_region_any (by kernel_rfl) ?_
                        change wpAny _ _ _ _ _ _ _ (World.drew _)
                        refine wpAny_take (i := 0) (v := ?_) rfl (by kernel_rfl) (by kernel_rfl) (by kernel_rfl) (fun _ _ _ h => h) (Or.inl ⟨by rfl, by intro wz; go_simp; with_reducible rfl⟩) ?_
                        go_simp
                        refine wpAny_take (i := 1) (v := ?_) rfl (by kernel_rfl) (by kernel_rfl) (by kernel_rfl) (fun _ _ _ h => h) (Or.inl ⟨by rfl, by intro wz; go_simp; with_reducible rfl⟩) ?_
                        go_simp
                        refine wpAny_take (i := 2) (v := ?_) rfl (by kernel_rfl) (by kernel_rfl) (by kernel_rfl) (fun _ _ _ h => h) (Or.inl ⟨by rfl, by intro wz; go_simp; with_reducible rfl⟩) ?_
                        go_simp
                        refine wpAny_take (i := 3) (v := ?_) rfl (by kernel_rfl) (by kernel_rfl) (by kernel_rfl) (fun _ _ _ h => h) (Or.inl ⟨by rfl, by intro wz; go_simp; with_reducible rfl⟩) ?_
                        go_simp
                        refine wpAny_take (i := 4) (v := ?_) rfl (by kernel_rfl) (by kernel_rfl) (by kernel_rfl) (fun _ _ _ h => h) (Or.inl ⟨by rfl, by intro wz; go_simp; with_reducible rfl⟩) ?_
                        go_simp
                        refine wpAny_take (i := 5) (v := ?_) rfl (by kernel_rfl) (by kernel_rfl) (by kernel_rfl) (fun _ _ _ h => h) (Or.inl ⟨by rfl, by intro wz; go_simp; with_reducible rfl⟩) ?_
                        go_simp
                        refine wpAny_take (i := 6) (v := ?_) rfl (by kernel_rfl) (by kernel_rfl) (by kernel_rfl) (fun _ _ _ h => h) (Or.inl ⟨by rfl, by intro wz; go_simp; with_reducible rfl⟩) ?_
                        go_simp
                        refine wpAny_take (i := 7) (v := ?_) rfl (by kernel_rfl) (by kernel_rfl) (by kernel_rfl) (fun _ _ _ h => h) (Or.inl ⟨by rfl, by intro wz; go_simp; with_reducible rfl⟩) ?_
                        go_simp
                        refine wpAny_take (i := 8) (v := ?_) rfl (by kernel_rfl) (by kernel_rfl) (by kernel_rfl) (fun _ _ _ h => h) (Or.inl ⟨by rfl, by intro wz; go_simp; with_reducible rfl⟩) ?_
                        go_simp
                        refine wpAny_take (i := 9) (v := ?_) rfl (by kernel_rfl) (by kernel_rfl) (by kernel_rfl) (fun _ _ _ h => h) (Or.inl ⟨by rfl, by intro wz; go_simp; with_reducible rfl⟩) ?_
                        go_simp
                        refine wpAny_take (i := 10) (v := ?_) rfl (by kernel_rfl) (by kernel_rfl) (by kernel_rfl) (fun _ _ _ h => h) (Or.inl ⟨by rfl, by intro wz; go_simp; with_reducible rfl⟩) ?_
                        go_simp
                        refine wpAny_take (i := 12) (v := ?_) rfl (by kernel_rfl) (by kernel_rfl) (by kernel_rfl) (fun _ _ _ h => h) (Or.inl ⟨by rfl, by intro wz; go_simp; with_reducible rfl⟩) ?_
                        go_simp
                        refine wpAny_take (i := 13) (v := ?_) rfl (by kernel_rfl) (by kernel_rfl) (by kernel_rfl) (fun _ _ _ h => h) (Or.inl ⟨by rfl, by intro wz; go_simp; with_reducible rfl⟩) ?_
                        go_simp
                        refine wpAny_take (i := 14) (v := ?_) rfl (by kernel_rfl) (by kernel_rfl) (by kernel_rfl) (fun _ _ _ h => h) (Or.inl ⟨by rfl, by intro wz; go_simp; with_reducible rfl⟩) ?_
                        go_simp
                        refine wpAny_ready (rs := [11, 15]) (by kernel_rfl) (by simp) ?_
                        refine AllReady.cons rfl (fun K hK => ?_) (AllReady.cons rfl (fun K hK => ?_) AllReady.nil)
                        · go_simp
                          refine hK _ _ ?_; clear hK K
                          refine wpAny_ready (rs := [15]) (by kernel_rfl) (by simp) ?_
                          refine AllReady.cons rfl (fun K hK => ?_) AllReady.nil
                          go_simp
                          refine hK _ _ ?_; clear hK K
                          refine wpAny_ready (rs := [16]) (by kernel_rfl) (by simp) ?_
                          refine AllReady.cons rfl (fun K hK => ?_) AllReady.nil
                          go_simp
                          go_wp2_with (go_at_call 42; refine (slotLess_any (Fs q) (Fs p) lv HLv _).mono ?_; rintro e w' ⟨rfl, rfl⟩)
                          refine wpAny_ready (rs := [17]) (by kernel_rfl) (by simp) ?_
                          refine AllReady.cons rfl (fun K hK => ?_) AllReady.nil
                          go_simp
                          refine hK _ _ ?_; clear hK K
                          refine wpAny_ready (rs := [18]) (by kernel_rfl) (by simp) ?_
                          refine AllReady.cons rfl (fun K hK => ?_) AllReady.nil
                          go_simp
                          refine hK _ _ ?_; clear hK K
                          refine wpAny_ready (rs := [19]) (by kernel_rfl) (by simp) ?_
                          refine AllReady.cons rfl (fun K hK => ?_) AllReady.nil
                          go_simp
                          refine hK _ _ ?_; clear hK K
                          refine wpAny_done (by kernel_rfl) ?_ _
                          refine NoPanic.normal ?_
                          go_wp2_with fail
                          go_meet
                          exact ⟨⟨!lv, rfl, hide (by rw [← HLv.out]; simp [takeL, c1, c2])⟩, ((HRs.out.drew.alloc _).alloc _), ((HRd.out.drew.alloc _).alloc _), ((HB.out.drew.alloc (by first | exact hsz | (simp; omega)) _).alloc (by simp; omega) _)⟩
                        · go_simp
                          refine hK _ _ ?_; clear hK K
                          refine wpAny_ready (rs := [11]) (by kernel_rfl) (by simp) ?_
                          refine AllReady.cons rfl (fun K hK => ?_) AllReady.nil
                          go_simp
                          refine hK _ _ ?_; clear hK K
                          refine wpAny_ready (rs := [16]) (by kernel_rfl) (by simp) ?_
                          refine AllReady.cons rfl (fun K hK => ?_) AllReady.nil
                          go_simp
                          go_wp2_with (go_at_call 42; refine (slotLess_any (Fs q) (Fs p) lv HLv _).mono ?_; rintro e w' ⟨rfl, rfl⟩)
                          refine wpAny_ready (rs := [17]) (by kernel_rfl) (by simp) ?_
                          refine AllReady.cons rfl (fun K hK => ?_) AllReady.nil
                          go_simp
                          refine hK _ _ ?_; clear hK K
                          refine wpAny_ready (rs := [18]) (by kernel_rfl) (by simp) ?_
                          refine AllReady.cons rfl (fun K hK => ?_) AllReady.nil
                          go_simp
                          refine hK _ _ ?_; clear hK K
                          refine wpAny_ready (rs := [19]) (by kernel_rfl) (by simp) ?_
                          refine AllReady.cons rfl (fun K hK => ?_) AllReady.nil
                          go_simp
                          refine hK _ _ ?_; clear hK K
                          refine wpAny_done (by kernel_rfl) ?_ _
                          refine NoPanic.normal ?_
                          go_wp2_with fail
                          go_meet
                          exact ⟨⟨!lv, rfl, hide (by rw [← HLv.out]; simp [takeL, c1, c2])⟩, ((HRs.out.drew.alloc _).alloc _), ((HRd.out.drew.alloc _).alloc _), ((HB.out.drew.alloc (by first | exact hsz | (simp; omega)) _).alloc (by simp; omega) _)⟩
                    · have e1 : decide ((p : Int) < (mid : Int)) = false := decide_eq_false (by omega)
                      clear hrs
                      refine wp_region_noPanic ?_
                      refine wp_region_any (by kernel_rfl) ?_
                      change wpAny _ _ _ _ _ _ _ (World.drew _)
                      refine wpAny_take (i := 0) (v := ?_) rfl (by kernel_rfl) (by kernel_rfl) (by kernel_rfl) (fun _ _ _ h => h) (Or.inl ⟨by rfl, by intro wz; go_simp; with_reducible rfl⟩) ?_
                      go_simp
                      refine wpAny_take (i := 1) (v := ?_) rfl (by kernel_rfl) (by kernel_rfl) (by kernel_rfl) (fun _ _ _ h => h) (Or.inl ⟨by rfl, by intro wz; go_simp; with_reducible rfl⟩) ?_
                      go_simp
                      refine wpAny_take (i := 2) (v := ?_) rfl (by kernel_rfl) (by kernel_rfl) (by kernel_rfl) (fun _ _ _ h => h) (Or.inl ⟨by rfl, by intro wz; go_simp; with_reducible rfl⟩) ?_
                      go_simp
                      refine wpAny_take (i := 3) (v := ?_) rfl (by kernel_rfl) (by kernel_rfl) (by kernel_rfl) (fun _ _ _ h => h) (Or.inl ⟨by rfl, by intro wz; go_simp; with_reducible rfl⟩) ?_
                      go_simp
                      refine wpAny_take (i := 4) (v := undef) rfl (by kernel_rfl) (by kernel_rfl) (by kernel_rfl) (fun _ _ _ h => h) (Or.inr ⟨by rfl, rfl⟩) ?_
                      go_simp
                      refine wpAny_take (i := 5) (v := undef) rfl (by kernel_rfl) (by kernel_rfl) (by kernel_rfl) (fun _ _ _ h => h) (Or.inr ⟨by rfl, rfl⟩) ?_
                      go_simp
                      refine wpAny_take (i := 6) (v := undef) rfl (by kernel_rfl) (by kernel_rfl) (by kernel_rfl) (fun _ _ _ h => h) (Or.inr ⟨by rfl, rfl⟩) ?_
                      go_simp
                      refine wpAny_take (i := 7) (v := undef) rfl (by kernel_rfl) (by kernel_rfl) (by kernel_rfl) (fun _ _ _ h => h) (Or.inr ⟨by rfl, rfl⟩) ?_
                      go_simp
                      refine wpAny_take (i := 8) (v := undef) rfl (by kernel_rfl) (by kernel_rfl) (by kernel_rfl) (fun _ _ _ h => h) (Or.inr ⟨by rfl, rfl⟩) ?_
                      go_simp
                      refine wpAny_take (i := 9) (v := undef) rfl (by kernel_rfl) (by kernel_rfl) (by kernel_rfl) (fun _ _ _ h => h) (Or.inr ⟨by rfl, rfl⟩) ?_
                      go_simp
                      refine wpAny_take (i := 10) (v := undef) rfl (by kernel_rfl) (by kernel_rfl) (by kernel_rfl) (fun _ _ _ h => h) (Or.inr ⟨by rfl, rfl⟩) ?_
                      go_simp
                      refine wpAny_take (i := 11) (v := undef) rfl (by kernel_rfl) (by kernel_rfl) (by kernel_rfl) (fun _ _ _ h => h) (Or.inr ⟨by rfl, rfl⟩) ?_
                      go_simp
                      refine wpAny_take (i := 12) (v := undef) rfl (by kernel_rfl) (by kernel_rfl) (by kernel_rfl) (fun _ _ _ h => h) (Or.inr ⟨by rfl, rfl⟩) ?_
                      go_simp
                      refine wpAny_take (i := 13) (v := undef) rfl (by kernel_rfl) (by kernel_rfl) (by kernel_rfl) (fun _ _ _ h => h) (Or.inr ⟨by rfl, rfl⟩) ?_
                      go_simp
                      refine wpAny_take (i := 14) (v := undef) rfl (by kernel_rfl) (by kernel_rfl) (by kernel_rfl) (fun _ _ _ h => h) (Or.inr ⟨by rfl, rfl⟩) ?_
                      go_simp
                      refine wpAny_take (i := 15) (v := undef) rfl (by kernel_rfl) (by kernel_rfl) (by kernel_rfl) (fun _ _ _ h => h) (Or.inr ⟨by rfl, rfl⟩) ?_
                      go_simp
                      refine wpAny_take (i := 16) (v := undef) rfl (by kernel_rfl) (by kernel_rfl) (by kernel_rfl) (fun _ _ _ h => h) (Or.inr ⟨by rfl, rfl⟩) ?_
                      go_simp
                      refine wpAny_take (i := 17) (v := undef) rfl (by kernel_rfl) (by kernel_rfl) (by kernel_rfl) (fun _ _ _ h => h) (Or.inr ⟨by rfl, rfl⟩) ?_
                      go_simp
                      refine wpAny_take (i := 18) (v := undef) rfl (by kernel_rfl) (by kernel_rfl) (by kernel_rfl) (fun _ _ _ h => h) (Or.inr ⟨by rfl, rfl⟩) ?_
                      go_simp
                      refine wpAny_ready (rs := [19]) (by kernel_rfl) (by simp) ?_
                      refine AllReady.cons rfl (fun K hK => ?_) AllReady.nil
                      go_simp
                      refine hK _ _ ?_; clear hK K
                      refine wpAny_done (by kernel_rfl) ?_ _
                      refine NoPanic.normal ?_
                      go_wp2_with fail
                      go_meet
                      exact ⟨⟨false, rfl, hide (by simp [takeL, c1])⟩, HRs.out.drew, HRd.out.drew, HB.out.drew⟩
                  case rest =>
                    clear HRs HRd HB hrs hrd hnx hsz
                    obtain ⟨⟨m, rfl, HTk⟩, hrs, hrd, hnx⟩ := hcut
                    have d0 := hrd.cell (i := o * 2) (by omega)
                    have d1 := hrd.cell (i := o * 2 + 1) (by omega)
                    have g0 := hrd.frozen (o * 2)
                    have g1 := hrd.frozen (o * 2 + 1)
                    have j0 : (0 : Int) ≤ (o : Int) := by omega
                    have j1 : (o : Int) < (n : Int) := by omega
                    have HRs := hide hrs
                    have HRd := hide hrd
                    clear hrd
                    cases m
                    · have hq : q < hi ∧ (mid ≤ p ∨ le (Fs p) (Fs q) = false) := by
                        have := HTk.out
                        simp only [takeL, Bool.and_eq_false_iff, Bool.or_eq_false_iff, decide_eq_false_iff_not] at this
                        rcases this with h | ⟨h1, h2⟩
                        · exact ⟨by omega, .inl (by omega)⟩
                        · exact ⟨by omega, .inr h2⟩
                      obtain ⟨hq2, hq3⟩ := hq
                      have HM2 := hide (put_step (by omega) HM.out (merge_right' hq2 hq3))
                      clear hq3
                      have q0 := hrs.cell (i := q * 2) (by omega)
                      have q1 := hrs.cell (i := q * 2 + 1) (by omega)
                      rw [pv_even] at q0
                      rw [pv_odd] at q1
                      have j2 : (0 : Int) ≤ (q : Int) := by omega
                      have j3 : (q : Int) < (n : Int) := by omega
                      clear hrs
                      go_wp2
                      go_roundw
                      case rel => exact ⟨p, q + 1, o + 1, upd Fe o (Fs q), rfl, by go_num, by go_num, hp0, hp1, by omega, by omega, by omega, HM2, hide (fun i hi => (upd_other _ _ (by omega)).trans (HE.out i hi)), (HRs.out.setOther (by simpa using hne) _).setOther (by simpa using hne) _, row_set HRd.out o (Fs q), (hnx.setCell hwd _).setCell hwd _⟩
                      case measure => simp [intOf]; omega
                    · have hq : p < mid ∧ (hi ≤ q ∨ le (Fs p) (Fs q) = true) := by
                        have := HTk.out
                        simp only [takeL, Bool.and_eq_true, Bool.or_eq_true, decide_eq_true_eq] at this
                        exact this
                      obtain ⟨hq2, hq3⟩ := hq
                      have HM2 := hide (put_step (by omega) HM.out (merge_left hq2 hq3))
                      clear hq3
                      have q0 := hrs.cell (i := p * 2) (by omega)
                      have q1 := hrs.cell (i := p * 2 + 1) (by omega)
                      rw [pv_even] at q0
                      rw [pv_odd] at q1
                      have j2 : (0 : Int) ≤ (p : Int) := by omega
                      have j3 : (p : Int) < (n : Int) := by omega
                      clear hrs
                      go_wp2
                      go_roundw
                      case rel => exact ⟨p + 1, q, o + 1, upd Fe o (Fs p), by go_num, rfl, by go_num, by omega, by omega, by omega, by omega, by omega, HM2, hide (fun i hi => (upd_other _ _ (by omega)).trans (HE.out i hi)), (HRs.out.setOther (by simpa using hne) _).setOther (by simpa using hne) _, row_set HRd.out o (Fs p), (hnx.setCell hwd _).setCell hwd _⟩
                      case measure => simp [intOf]; omega
                · have hpe : p = mid := by omega
                  have hqe : q = hi := by omega
                  have hoe : o = hi := by omega
                  have HN : Hid (Pass Fs Fe n wd (lo + 2 * wd)) := hide (by
                    refine pass_step (by omega) hlt2 HBk.out HPs.out HE.out ?_
                    have := HM.out
                    rw [hpe, hqe, hoe, seg_nil Fs (Nat.le_refl mid), seg_nil Fs (Nat.le_refl hi)] at this
                    rw [HMid.out, HHi.out]
                    simpa using this)
                  clear HM HE HPs
                  go_wp2
                  go_roundw
                  case rel => exact ⟨lo + 2 * wd, Fe, by go_num, by omega, HN, hrs, hrd, hnx⟩
                  case measure => simp [intOf]; omega
            · obtain ⟨hpm, hbl⟩ := pass_end HPs.out (by omega)
              have HPm2 := hide (hpm.trans HPm.out)
              have HBl := hide hbl
              clear hpm hbl HPm HBk HPs
              go_wp2
              go_roundw
              case rel => exact ⟨d, s, wd * 2, Fd, Fs, rfl, rfl, by go_num, by omega, by omega, fun h => hne h.symm, hwd, hws, hrd, hrs, hide (by rw [Nat.mul_comm]; exact HBl.out), HPm2, hnx⟩
              case measure => simp [intOf]; omega
        · have hpw := blk_all HBk.out (by omega)
          have HPw := hide hpw
          clear hpw HBk
          go_wp2
          exact bodyPost_ret (by simp [results, Try.results36, go_sem]) rfl ⟨s, Fs, rfl, pairs_of_row hrs, hrs.lt, hnx, HPm.out, HPw.out⟩
end Go.Proofs.Qxb6602994a.Mem
