/- The walks of seat b6602994a: the law of reserve. -/
import Derived.Test.Qxb6602994aMemH
namespace Go.Proofs.Qxb6602994a.Mem
open Go.RowKit Tab
set_option linter.unusedVariables false

theorem zz22 (a : Option Addr) (n cap : Nat) (x y k : Int) (w : World) (hn : n ≤ 9223372036854775807) (v : Bool) (hv : Hid (decide (n ≤ 1048576) = v)) :
    Calls Try.prog 22 #[.slice a n cap, .int .i64 x, .int .i64 y, .int .i64 k] w fun e w' => e = .returned (.bool v) ∧ w' = w :=
  (zzBytes22_any a n cap x y k w hn).mono fun e w' ⟨h1, h2⟩ => ⟨by rw [h1, hv.out], h2⟩

theorem pow_of (z : Nat) (hz : Hid (∃ e, e ≤ 18 ∧ z = 2 ^ e)) (w : World) :
    Calls Try.prog 26 #[.int .i64 (z : Int)] w fun e w' => e = .returned (.bool true) ∧ w' = w := by
  obtain ⟨e, he, rfl⟩ := hz.out
  exact pow_any e he w

set_option maxRecDepth 100000 in
set_option maxHeartbeats 8000000 in
theorem law_any (a : Option Addr) (b off m cap : Nat) (n sink k : Int) (S : Nat → P) (w : World) (hm : m ≤ 9223372036854775807) (hC : Came w a b off m cap S)
    (hn0 : -9223372036854775808 ≤ n) (hn1 : n ≤ 9223372036854775807) (hk0 : -9223372036854775808 ≤ k) (hk1 : k ≤ 9223372036854775807) :
    Calls Try.prog 8 #[.slice a m cap, .int .i64 n, .int .i64 sink, .int .i64 k] w fun e w' => e = .returned (.bool true) ∧ Below w.heap.size w w' := by
  have HZZ := fun v hv => hide (zz22 a m cap n sink k w hm v hv)
  by_cases hbig : m ≤ 1048576
  · have HZ := HZZ true (hide (decide_eq_true hbig))
    clear HZZ
    by_cases hm2 : m ≤ 65536
    · have i0 : ¬ ((65536 : Int) < (m : Int)) := by omega
      by_cases hk2 : k < -65536
      · go_enter Try.func8, Try.ntmps8
        go_wp2_with fail
        refine HZ.out.mono ?_
        rintro e w' ⟨rfl, rfl⟩
        go_wp2
        exact bodyPost_ret (by simp [results, Try.results8, go_sem]) rfl ⟨rfl, Below.refl _ _⟩
      · by_cases hk3 : 65536 < k
        · go_enter Try.func8, Try.ntmps8
          go_wp2_with fail
          refine HZ.out.mono ?_
          rintro e w' ⟨rfl, rfl⟩
          go_wp2
          exact bodyPost_ret (by simp [results, Try.results8, go_sem]) rfl ⟨rfl, Below.refl _ _⟩
        · obtain ⟨N, HN⟩ : ∃ N, Hid ((tkL S m).length = N) := ⟨_, hide rfl⟩
          have HTc := hide (taken_nat a b off m cap S w hC hbig N HN)
          by_cases hnN : n = (N : Int)
          · have hNm : N ≤ m := by rw [← HN.out]; exact tkL_le S m
            subst hnN
            have hself : ((N : Int) != (N : Int)) = false := by simp
            by_cases h2 : (m : Int) < 2 * (N : Int)
            · go_enter Try.func8, Try.ntmps8
              go_wp2_with fail
              refine HZ.out.mono ?_
              rintro e w' ⟨rfl, rfl⟩
              go_wp2_with fail
              refine HTc.out.mono ?_
              rintro e w' ⟨rfl, rfl⟩
              go_wp2
              exact bodyPost_ret (by simp [results, Try.results8, go_sem]) rfl ⟨rfl, Below.refl _ _⟩
            · have HSp := hide (split_any a b off m cap S w hbig hC)
              have HC := hide hC
              clear hC
              have hss : (sink != sink) = false := by simp
              have x27 : decide ((65536 : Int) < (m : Int)) = false := decide_eq_false (by omega)
              have x29 : decide (k < -65536) = false := decide_eq_false hk2
              have x32 : decide (65536 < k) = false := decide_eq_false hk3
              have x43 : decide ((m : Int) < 2 * (N : Int)) = false := decide_eq_false h2
              go_enter Try.func8, Try.ntmps8
              go_wp2_with fail
              refine HZ.out.mono ?_
              rintro e w' ⟨rfl, rfl⟩
              go_wp2_with fail
              refine HTc.out.mono ?_
              rintro e w' ⟨rfl, rfl⟩
              go_wp2_with fail
              refine HSp.out.mono ?_
              rintro e w1 ⟨ah, ap, bh, bp, c, rfl, hS, hc, hB1⟩
              clear HTc HZ HSp
              have HR := hide (zzReserve_any ah ap bh bp m c (N : Int) sink k S w1 hS hc (by omega) (by omega) (by omega) (by omega) hm2 (by rw [HN.out]))
              have HB1 := hide hB1
              clear hS hc hB1
              go_wp2_with fail
              refine HR.out.mono ?_
              rintro e w2 ⟨z, oh, op, R, rfl, hL, hzb, hIh, hIp, hoh, hop, hB2⟩
              have HB : Hid (Below w'.heap.size w' w2) := hide (HB1.out.trans (hB2.mono HB1.out.size))
              have HC2 := hide (HC.out.below HB.out)
              have hws := HB.out.size
              clear HR HB1 hB2 HC
              have hzz : ((z : Int) != (z : Int)) = false := by simp
              go_upto_region 14 with fail
              clear hself hss hzz x27 x29 x32 x43 i0
              rcases hL with ⟨hneed, hzm, hRS⟩ | ⟨hneed, hSz, hT⟩
              · obtain rfl : m = z := hzm.symm
                obtain rfl : S = R := hRS.symm
                have hzz : ((m : Int) != (m : Int)) = false := by simp
                have x83 : decide (2 * ((N : Int) + k) ≤ (m : Int)) = true := decide_eq_true hneed
                go_upto_region 17 with fail
                clear hzz x83
                go_wp2
                go_loopw [16] (fun v wr => ∃ j : Nat, j ≤ m ∧ v = .int .i64 j ∧ Ints .u64 wr oh m (fun i => (S i).1) ∧ Ints .i64 wr op m (fun i => (S i).2) ∧ Came wr a b off m cap S ∧ Below w'.heap.size w' wr) (fun v _ => m - (intOf v).toNat)
                case atStart => exact ⟨0, Nat.zero_le _, rfl, hIh, hIp, HC2.out, HB.out⟩
                case round =>
                  clear hIh hIp HC2 HB
                  obtain ⟨j, hj, rfl, hIh, hIp, hC, hnx⟩ := hrel
                  by_cases hlt : j < m
                  · have HC3 := hide hC
                    obtain ⟨_, ha, hcells, _⟩ := hC
                    obtain rfl := ha (by omega)
                    obtain ⟨q0, q1⟩ := hcells j hlt
                    have r0 := hIh j hlt
                    have r1 := hIp j hlt
                    have i1 : (j : Int) < (m : Int) := by omega
                    have i0 : (0 : Int) ≤ (j : Int) := by omega
                    have e1 : ((S j).1 != (S j).1) = false := by simp
                    have e2 : ((S j).2 != (S j).2) = false := by simp
                    have HH := hide hIh
                    have HP := hide hIp
                    clear hIh hIp hcells ha
                    go_wp2
                    go_quiet (fail)
                    go_wp2
                    go_roundw
                    case rel => exact ⟨j + 1, by omega, by go_num, HH.out, HP.out, ⟨HC3.out.1, HC3.out.2, HC3.out.3, HC3.out.4⟩, ⟨hnx.1, hnx.2, hnx.3, hnx.4, hnx.5⟩⟩
                    case measure => simp [intOf]; omega
                  · go_wp2
                    exact bodyPost_ret (by simp [results, Try.results8, go_sem]) rfl ⟨rfl, hnx⟩
              · have x83 : decide (2 * ((N : Int) + k) ≤ (m : Int)) = false := decide_eq_false (by omega)
                obtain ⟨hpow, hlo, hhi, hfits, hleast⟩ := hSz
                have HPow := hide hpow
                obtain ⟨ee, hee, hze⟩ := hpow
                have HT := hide hT
                have HLen : Hid ((tkL R z).length < z) := hide (by rw [hT.perm.length_eq, HN.out]; omega)
                have hzz : ¬ ((z : Int) < 8) := by omega
                have HPr := hide (probes_any oh op z ee S R m w2 hze hee (by omega) hhi hT HLen.out hIh hIp hoh hop)
                have HPw := hide (pow_of z HPow w2)
                have y120 : decide ((z : Int) < 8) = false := decide_eq_false hzz
                have y124 : decide ((z : Int) < 2 * ((N : Int) + k)) = false := decide_eq_false (by omega)
                have HLeast := hide hleast
                clear hleast hze hT hzz
                go_wp2_with fail
                refine HPw.out.mono ?_
                rintro e w3 ⟨rfl, hw3⟩
                subst hw3
                clear HPw
                go_upto_region 26 with fail
                go_cut [138] (fun v wx => v = .bool false ∧ wx = w3)
                case first =>
                  by_cases h8 : z = 8
                  · have y132 : decide ((8 : Int) < (z : Int)) = false := decide_eq_false (by omega)
                    go_wp2
                    go_meet
                    exact ⟨rfl, rfl⟩
                  · have y132 : decide ((8 : Int) < (z : Int)) = true := decide_eq_true (by omega)
                    have y137 : decide (2 * ((N : Int) + k) ≤ (z : Int) / 2) = false := decide_eq_false (by have := HLeast.out; omega)
                    go_wp2
                    go_meet
                    exact ⟨by first | rfl | rw [y137], rfl⟩
                case rest =>
                obtain ⟨rfl, hwc⟩ := hcut
                subst hwc
                go_wp2
                go_loop [18] (fun v => ∃ j : Nat, j ≤ z ∧ v = .int .i64 j) (fun v => z - (intOf v).toNat)
                case atStart => exact ⟨0, Nat.zero_le _, rfl⟩
                case round =>
                  obtain ⟨j, hj, rfl⟩ := hrel
                  by_cases hlt : j < z
                  · have r0 := hIh j hlt
                    have r1 := hIp j hlt
                    have i1 : (j : Int) < (z : Int) := by omega
                    have i0 : (0 : Int) ≤ (j : Int) := by omega
                    by_cases hf : (R j).2 = 0
                    · have hf' : ((R j).2 == 0) = true := by simp [hf]
                      have hg : ((R j).1 != 0) = false := by simp [HT.out.blank j hlt hf]
                      clear hf
                      go_wp2
                      go_round
                      case rel => exact ⟨j + 1, by omega, by go_num⟩
                      case measure => simp [intOf]; omega
                    · have hf' : ((R j).2 == 0) = false := by simp [hf]
                      clear hf
                      go_wp2
                      go_round
                      case rel => exact ⟨j + 1, by omega, by go_num⟩
                      case measure => simp [intOf]; omega
                  · go_wp2_with fail
                    refine HPr.out.mono ?_
                    rintro e w4 ⟨rfl, hB4⟩
                    have HSm := hide (same_any a b off m cap oh op z S R w4 (HC2.out.below hB4) hm2 hhi HT.out.perm (hIh.below hB4 (fun _ => hoh)) (hIp.below hB4 (fun _ => hop)) (Nat.lt_of_lt_of_le hoh hB4.size) (Nat.lt_of_lt_of_le hop hB4.size))
                    have HB4 := hide (HB.out.trans (hB4.mono hws))
                    clear hB4 HPr hIh hIp
                    go_wp2_with fail
                    refine HSm.out.mono ?_
                    rintro e w5 ⟨rfl, hB5⟩
                    have HB5 := hide (HB4.out.trans (hB5.mono HB4.out.size))
                    clear hB5 HSm
                    go_wp2_with fail
                    exact bodyPost_ret (by simp [results, Try.results8, go_sem]) rfl ⟨rfl, HB5.out⟩
          · have hne : (n != (N : Int)) = true := by simp [hnN]
            clear hnN
            go_enter Try.func8, Try.ntmps8
            go_wp2_with fail
            refine HZ.out.mono ?_
            rintro e w' ⟨rfl, rfl⟩
            go_wp2_with fail
            refine HTc.out.mono ?_
            rintro e w' ⟨rfl, rfl⟩
            go_wp2
            exact bodyPost_ret (by simp [results, Try.results8, go_sem]) rfl ⟨rfl, Below.refl _ _⟩
    · have i0 : (65536 : Int) < (m : Int) := by omega
      go_enter Try.func8, Try.ntmps8
      go_wp2_with fail
      refine HZ.out.mono ?_
      rintro e w' ⟨rfl, rfl⟩
      go_wp2
      exact bodyPost_ret (by simp [results, Try.results8, go_sem]) rfl ⟨rfl, Below.refl _ _⟩
  · have HZ := HZZ false (hide (decide_eq_false hbig))
    go_enter Try.func8, Try.ntmps8
    go_wp2_with fail
    refine HZ.out.mono ?_
    rintro e w' ⟨rfl, rfl⟩
    go_wp2
    exact bodyPost_ret (by simp [results, Try.results8, go_sem]) rfl ⟨rfl, Below.refl _ _⟩
end Go.Proofs.Qxb6602994a.Mem
