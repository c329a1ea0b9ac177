/- The walks of seat b6602994a: sameTaken. -/
import Derived.Test.Qxb6602994aMemG
namespace Go.Proofs.Qxb6602994a.Mem
open Go.RowKit Tab
set_option linter.unusedVariables false

theorem taken_nat (a : Option Addr) (b off n cap : Nat) (S : Nat → P) (w : World) (hC : Came w a b off n cap S) (hn : n ≤ 1048576) (N : Nat) (hN : Hid ((tkL S n).length = N)) :
    Calls Try.prog 23 #[.slice a n cap] w fun e w' => e = .returned (.int .i64 (N : Int)) ∧ w' = w :=
  (takenCount_any a b off n cap S w hC hn).mono fun e w' ⟨h1, h2⟩ => ⟨by rw [h1, hN.out], h2⟩

theorem tkL_take {S : Nat → P} {j : Nat} (h : (S j).2 ≠ 0) : tkL S (j + 1) = tkL S j ++ [S j] := by simp [tkL, h]
theorem tkL_pass {S : Nat → P} {j : Nat} (h : (S j).2 = 0) : tkL S (j + 1) = tkL S j := by simp [tkL, h]
theorem ofL_nil : ofL [] = fun _ => (0, 0) := by funext i; rfl

theorem row_take {w : World} {b N : Nat} {S : Nat → P} {j c : Nat} (h : w.rowIs b 48 (N * 2) (pv (ofL (tkL S j)))) (h0 : (S j).2 ≠ 0) (hc : (tkL S j).length = c) :
    ((w.setCell ⟨b, c * 2, none⟩ (.int .u64 (S j).1)).setCell ⟨b, c * 2 + 1, none⟩ (.int .i64 (S j).2)).rowIs b 48 (N * 2) (pv (ofL (tkL S (j + 1)))) := by
  rw [tkL_take h0, ofL_snoc, hc]
  exact row_set h c (S j)

set_option maxRecDepth 100000 in
set_option maxHeartbeats 8000000 in
theorem same_any (a : Option Addr) (b off m cap : Nat) (oh op z : Nat) (S R : Nat → P) (w : World) (hC : Came w a b off m cap S) (hm : m ≤ 65536) (hz : z ≤ 262144) (hP : (tkL R z).Perm (tkL S m))
    (hh : Ints .u64 w oh z (fun i => (R i).1)) (hp : Ints .i64 w op z (fun i => (R i).2)) (hoh : oh < w.heap.size) (hop : op < w.heap.size) :
    Calls Try.prog 28 #[.slice a m cap, .slice (some ⟨oh, 0, none⟩) z z, .slice (some ⟨op, 0, none⟩) z z] w fun e w' => e = .returned (.bool true) ∧ Below w.heap.size w w' := by
  have HP := hide hP
  clear hP
  obtain ⟨N, HN⟩ : ∃ N, Hid ((tkL S m).length = N) := ⟨_, hide rfl⟩
  have HNR : Hid ((tkL R z).length = N) := hide (by rw [HP.out.length_eq]; exact HN.out)
  have hNm : N ≤ m := by rw [← HN.out]; exact tkL_le S m
  have hmk := fun wx => make38 N (by omega) wx
  have HR1 := hide (made_pairs w N 48)
  have HB1 : Hid (Below w.heap.size w (w.alloc (.cells (madeCells #[.int .u64 0, .int .i64 0] (N * 2)) 48))) := hide ((Below.refl _ _).alloc (Nat.le_refl _) _)
  have HTc := hide (taken_nat a b off m cap S w hC (by omega) N HN)
  obtain ⟨_, ha, hcells, hbw⟩ := hC
  go_enter Try.func28, Try.ntmps28
  go_wp2_with fail
  refine HTc.out.mono ?_
  rintro e w' ⟨rfl, hw'⟩
  subst hw'
  clear HTc
  go_upto_region 2 with fail
  generalize (w'.alloc (.cells (madeCells #[.int .u64 0, .int .i64 0] (N * 2)) 48)) = w1 at HR1 HB1 ⊢
  go_wp2
  go_loopw [8, 9] (fun v8 v9 wr => ∃ (c j : Nat), j ≤ m ∧ v9 = .int .i64 j ∧ v8 = .int .i64 c ∧ c ≤ N ∧ Hid ((tkL S j).length = c) ∧ wr.rowIs w'.heap.size 48 (N * 2) (pv (ofL (tkL S j))) ∧ Below w'.heap.size w' wr) (fun _ v _ => m - (intOf v).toNat)
  case atStart => exact ⟨0, 0, Nat.zero_le _, rfl, rfl, Nat.zero_le _, hide rfl, by rw [show tkL S 0 = [] from rfl, ofL_nil]; exact HR1.out, HB1.out⟩
  case round =>
    clear HR1 HB1
    obtain ⟨c, j, hj, rfl, rfl, hcN, HC, hrow, hnx⟩ := hrel
    by_cases hlt : j < m
    · obtain rfl := ha (by omega)
      obtain ⟨q0, q1⟩ := (hcells.below hnx hbw) j hlt
      have i1 : (j : Int) < (m : Int) := by omega
      have i0 : (0 : Int) ≤ (j : Int) := by omega
      by_cases hf : (S j).2 = 0
      · have hf' : ((S j).2 != 0) = false := by simp [hf]
        have HT := hide (tkL_pass hf)
        clear hf
        go_wp2
        go_roundw
        case rel => exact ⟨c, j + 1, by omega, by go_num, rfl, hcN, hide (by rw [HT.out]; exact HC.out), by rw [HT.out]; exact hrow, hnx⟩
        case measure => simp [intOf]; omega
      · have hf' : ((S j).2 != 0) = true := by simp [hf]
        have HT := hide (tkL_take hf)
        have HRn := hide (row_take hrow hf HC.out)
        have hl1 : (tkL S (j + 1)).length = c + 1 := by rw [HT.out, List.length_append, HC.out]; rfl
        have hl2 := tkL_mono S (show j + 1 ≤ m by omega)
        rw [hl1, HN.out] at hl2
        have HL1 := hide hl1
        have d0 := hrow.cell (i := c * 2) (by omega)
        have d1 := hrow.cell (i := c * 2 + 1) (by omega)
        have g0 := hrow.frozen (c * 2)
        have g1 := hrow.frozen (c * 2 + 1)
        have k0 : (0 : Int) ≤ (c : Int) := by omega
        have k1 : (c : Int) < (N : Int) := by omega
        clear hf hl1 hrow
        go_wp2
        go_roundw
        case rel => exact ⟨c + 1, j + 1, by omega, by go_num, by go_num, by omega, HL1, HRn.out, (hnx.setCell (Nat.le_refl _) _).setCell (Nat.le_refl _) _⟩
        case measure => simp [intOf]; omega
    · obtain rfl : j = m := by omega
      have hpx := hp.below hnx (fun _ => hop)
      have hhx := hh.below hnx (fun _ => hoh)
      have HRa := hide hrow
      have hsz := hnx.size
      have HB := hide hnx
      have hAl := hrow.lt
      clear hrow hnx hp hh ha hcells hbw HC
      go_wp2
      go_loop [10, 11] (fun v10 v11 => ∃ (c k : Nat), k ≤ z ∧ v11 = .int .i64 k ∧ v10 = .int .i64 c ∧ c ≤ k ∧ Hid ((tkL R k).length = c)) (fun _ v => z - (intOf v).toNat)
      case atStart => exact ⟨0, 0, Nat.zero_le _, rfl, rfl, Nat.le_refl _, hide rfl⟩
      case round =>
        obtain ⟨c2, k, hk, rfl, rfl, hck, HC⟩ := hrel
        by_cases hlt2 : k < z
        · have q0 := hpx k hlt2
          have i1 : (k : Int) < (z : Int) := by omega
          have i0 : (0 : Int) ≤ (k : Int) := by omega
          by_cases hf : (R k).2 = 0
          · have hf' : ((R k).2 != 0) = false := by simp [hf]
            have HT := hide (tkL_pass hf)
            clear hf
            go_wp2
            go_round
            case rel => exact ⟨c2, k + 1, by omega, by go_num, rfl, by omega, hide (by rw [HT.out]; exact HC.out)⟩
            case measure => simp [intOf]; omega
          · have hf' : ((R k).2 != 0) = true := by simp [hf]
            have HT := hide (tkL_take hf)
            have HL1 : Hid ((tkL R (k + 1)).length = c2 + 1) := hide (by rw [HT.out, List.length_append, HC.out]; rfl)
            clear hf
            go_wp2
            go_round
            case rel => exact ⟨c2 + 1, k + 1, by omega, by go_num, by go_num, by omega, HL1⟩
            case measure => simp [intOf]; omega
        · obtain rfl : k = z := by omega
          obtain rfl : c2 = N := by rw [← HC.out]; exact HNR.out
          obtain ⟨wa, hwa⟩ : ∃ wa, wa = wr := ⟨_, rfl⟩
          subst hwa
          have hself : ((c2 : Int) != (c2 : Int)) = false := by simp
          have HR2 := hide (made_pairs wa c2 48)
          have HRa2 : Hid ((wa.alloc (.cells (madeCells #[.int .u64 0, .int .i64 0] (c2 * 2)) 48)).rowIs w'.heap.size 48 (c2 * 2) (pv (ofL (tkL S j)))) := hide (HRa.out.alloc _)
          have HB2 : Hid (Below wa.heap.size wa (wa.alloc (.cells (madeCells #[.int .u64 0, .int .i64 0] (c2 * 2)) 48))) := hide ((Below.refl _ _).alloc (Nat.le_refl _) _)
          clear HRa HC
          go_upto_region 18 with fail
          generalize (wa.alloc (.cells (madeCells #[.int .u64 0, .int .i64 0] (c2 * 2)) 48)) = w2 at HR2 HRa2 HB2 ⊢
          clear hmk hself
          have hohr : oh < wa.heap.size := by omega
          have hopr : op < wa.heap.size := by omega
          have hjN := hNm
          have n1 : oh ≠ wa.heap.size := by omega
          have n2 : op ≠ wa.heap.size := by omega
          go_wp2
          go_loopw [8, 13] (fun v8 v13 wr => ∃ (c i : Nat), i ≤ k ∧ v13 = .int .i64 i ∧ v8 = .int .i64 c ∧ c ≤ c2 ∧ Hid ((tkL R i).length = c) ∧ wr.rowIs wa.heap.size 48 (c2 * 2) (pv (ofL (tkL R i))) ∧ Below wa.heap.size wa wr ∧ wr.rowIs w'.heap.size 48 (c2 * 2) (pv (ofL (tkL S j)))) (fun _ v _ => k - (intOf v).toNat)
          case atStart => exact ⟨0, 0, Nat.zero_le _, rfl, rfl, Nat.zero_le _, hide rfl, by rw [show tkL R 0 = [] from rfl, ofL_nil]; exact HR2.out, HB2.out, HRa2.out⟩
          case round =>
            clear HR2 HRa2 HB2
            obtain ⟨c, i, hi, rfl, rfl, hcN, HC, hrow, hnx, hra⟩ := hrel
            by_cases hlt3 : i < k
            · have q0 := (hhx.below hnx (fun _ => hohr)) i hlt3
              have q1 := (hpx.below hnx (fun _ => hopr)) i hlt3
              have i1 : (i : Int) < (k : Int) := by omega
              have i0 : (0 : Int) ≤ (i : Int) := by omega
              by_cases hf : (R i).2 = 0
              · have hf' : ((R i).2 != 0) = false := by simp [hf]
                have HT := hide (tkL_pass hf)
                clear hf
                go_wp2
                go_roundw
                case rel => exact ⟨c, i + 1, by omega, by go_num, rfl, hcN, hide (by rw [HT.out]; exact HC.out), by rw [HT.out]; exact hrow, hnx, hra⟩
                case measure => simp [intOf]; omega
              · have hf' : ((R i).2 != 0) = true := by simp [hf]
                have HT := hide (tkL_take hf)
                have HRn := hide (row_take hrow hf HC.out)
                have hl1 : (tkL R (i + 1)).length = c + 1 := by rw [HT.out, List.length_append, HC.out]; rfl
                have hl2 := tkL_mono R (show i + 1 ≤ k by omega)
                rw [hl1, HNR.out] at hl2
                have HL1 := hide hl1
                have d0 := hrow.cell (i := c * 2) (by omega)
                have d1 := hrow.cell (i := c * 2 + 1) (by omega)
                have g0 := hrow.frozen (c * 2)
                have g1 := hrow.frozen (c * 2 + 1)
                have k0 : (0 : Int) ≤ (c : Int) := by omega
                have k1 : (c : Int) < (c2 : Int) := by omega
                have HRa3 := hide hra
                clear hf hl1 hrow hra
                go_wp2
                go_region
                all_goals go_wp2
                go_roundw
                case rel =>
                  exact ⟨c + 1, i + 1, by omega, by go_num, by go_num, by omega, HL1, HRn.out.drew, ((hnx.setCell (Nat.le_refl _) _).setCell (Nat.le_refl _) _).drew, ((HRa3.out.setOther (by simp; omega) _).setOther (by simp; omega) _).drew⟩
                case measure => simp [intOf]; omega
            · obtain rfl : i = k := by omega
              have hBl := hrow.lt
              have hsz2 := hnx.size
              have HB3 : Hid (Below w'.heap.size w' wr) := hide (HB.out.trans (hnx.mono (by omega)))
              have HPa := hide (pairs_of_row hra)
              have HPb := hide (pairs_of_row hrow)
              have hAl2 := hra.lt
              clear hrow hra hnx HC hpx hhx HB
              go_wp2_with fail
              refine (sort_any w'.heap.size c2 (ofL (tkL S j)) wr (by omega) HPa.out hAl2).mono ?_
              rintro e w5 ⟨sa, Ga, rfl, hpa, hla, hBa, hpma, hsa⟩
              have HPb5 := hide (HPb.out.below hBa (fun _ => hBl))
              have hBl5 : wa.heap.size < w5.heap.size := Nat.lt_of_lt_of_le hBl hBa.size
              have HBa := hide hBa
              clear hBa HPb HPa
              go_wp2_with fail
              refine (sort_any wa.heap.size c2 (ofL (tkL R i)) w5 (by omega) HPb5.out hBl5).mono ?_
              rintro e w6 ⟨sb, Gb, rfl, hpb, hlb, hBb, hpmb, hsb⟩
              have HEq : Hid (∀ x, x < c2 → Ga x = Gb x) := hide (by
                have e1 : seg (ofL (tkL S j)) 0 c2 = tkL S j := by rw [← HN.out]; exact seg_ofL _
                have e2 : seg (ofL (tkL R i)) 0 c2 = tkL R i := by rw [← HNR.out]; exact seg_ofL _
                rw [e1] at hpma
                rw [e2] at hpmb
                exact sorted_eq hsa hsb (hpma.trans (HP.out.symm.trans hpmb.symm)))
              have hpa6 := hpa.below hBb (fun _ => hla)
              have HBe : Hid (Below w'.heap.size w' w6) := hide ((HB3.out.trans (HBa.out.mono (by omega))).trans (hBb.mono (by have := HBa.out.size; omega)))
              clear hpma hpmb hsa hsb hBb hpa HB3 HBa HPb5
              go_wp2_with fail
              go_loopw [14] (fun v wy => ∃ x : Nat, x ≤ c2 ∧ v = .int .i64 x ∧ Pairs wy sa 0 c2 Ga ∧ Pairs wy sb 0 c2 Gb ∧ Below w'.heap.size w' wy) (fun v _ => c2 - (intOf v).toNat)
              case atStart => exact ⟨0, Nat.zero_le _, rfl, hpa6, hpb, HBe.out⟩
              case round =>
                clear hpa6 hpb HBe
                obtain ⟨x, hx, rfl, hpa, hpb, hnx⟩ := hrel
                by_cases hlt4 : x < c2
                · obtain ⟨q0, q1⟩ := hpa x hlt4
                  obtain ⟨r0, r1⟩ := hpb x hlt4
                  rw [← HEq.out x hlt4] at r0 r1
                  rw [Nat.zero_add] at q0 q1 r0 r1
                  have i1 : (x : Int) < (c2 : Int) := by omega
                  have i0 : (0 : Int) ≤ (x : Int) := by omega
                  have e1 : ((Ga x).1 != (Ga x).1) = false := by simp
                  have e2 : ((Ga x).2 != (Ga x).2) = false := by simp
                  have HPa := hide hpa
                  have HPb := hide hpb
                  clear hpa hpb
                  go_wp2
                  go_quiet (fail)
                  go_wp2
                  go_roundw
                  case rel =>
                    exact ⟨x + 1, by omega, by go_num, HPa.out, HPb.out, ⟨hnx.1, hnx.2, hnx.3, hnx.4, hnx.5⟩⟩
                  case measure => simp [intOf]; omega
                · go_wp2
                  exact bodyPost_ret (by simp [results, Try.results28, go_sem]) rfl ⟨rfl, hnx⟩
end Go.Proofs.Qxb6602994a.Mem
