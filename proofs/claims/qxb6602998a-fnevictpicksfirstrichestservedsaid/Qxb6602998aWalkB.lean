/- The walks of seat b6602998a: Evict. -/
import Derived.Test.Qxb6602998aWalkA
import Derived.Deep.QuietTactic
import Derived.BigQuiet
import Derived.Deep.RegionHeld3
namespace Go.Proofs.Qxb6602998a
open Go.RowKit
set_option linter.unusedVariables false

/-- The index of the first richest served one of the first j; -1 where there is none. -/
def best (F : Nat → Int × Int) : Nat → Int
  | 0 => -1
  | j + 1 => if sv (F j) = true ∧ (best F j < 0 ∨ (F (best F j).toNat).1 < (F j).1) then (j : Int) else best F j

theorem best_range (F : Nat → Int × Int) (j : Nat) : -1 ≤ best F j ∧ best F j < j := by
  induction j with
  | zero => simp [best]
  | succ j ih => simp only [best]; split <;> omega

set_option maxHeartbeats 1000000 in
theorem evict_full (h : Int) (a : Option Addr) (b n cap : Nat) (F : Nat → Int × Int) (w : World) (h0 : 80 ≤ h) (hn : n ≤ 1048576)
    (ha : 0 < n → a = some ⟨b, 0, none⟩) (hp : Pairs w b 0 n F) (hb : 0 < n → b < w.heap.size) :
    Calls Try.prog 11 #[.int .i64 h, .slice a n cap] w fun e w' => e = .returned (.int .i64 (best F n)) ∧ Below w.heap.size w w' := by
  have hd : decide (h < 80) = false := decide_eq_false (by omega)
  have hmt := hide (mayTake_any h w)
  go_enter Try.func11, Try.ntmps11
  go_wp2_with fail
  refine hmt.out.mono ?_
  rintro e w' ⟨rfl, rfl⟩
  clear hmt
  go_wp2_with fail
  go_loopw [5, 12] (fun v i wr => ∃ (k : Nat) (g : Int), k ≤ n ∧ i = .int .i64 k ∧ v = .int .i64 g ∧ -1 ≤ g ∧ g < k ∧ Hid (best F k = g) ∧ Below w'.heap.size w' wr) (fun _ i _ => n - (intOf i).toNat)
  case atStart => exact ⟨0, -1, Nat.zero_le _, rfl, rfl, by omega, by omega, hide rfl, Below.refl _ _⟩
  case round =>
    obtain ⟨k, g, hk, rfl, rfl, r0, r1, HG, hnx⟩ := hrel
    by_cases hlt : k < n
    · obtain rfl := ha (by omega)
      have hP := hp.below hnx hb
      have hcx := hP k hlt
      rw [Nat.zero_add] at hcx
      obtain ⟨c0, c1⟩ := hcx
      have HP := hide hP
      clear hP
      have hsz := hnx.size
      have hbb := hb (by omega)
      have hbw : b < wr.heap.size := by omega
      go_upto_region 7 with fail
      go_cut [32] (fun v wx => (∃ m : Bool, v = .bool m ∧ Hid (m = true ↔ (sv (F k) = true ∧ (g < 0 ∨ (F g.toNat).1 < (F k).1)))) ∧ Below w'.heap.size w' wx)
      case first =>
        by_cases hsv : sv (F k) = true
        · have HV := hide hsv
          clear hsv
          by_cases hneg : g < 0
          · have hdn : decide (g < 0) = true := decide_eq_true hneg
            refine wp_region_noPanic ?_
            refine wp_region_any (by kernel_rfl) ?_
            change wpAny _ _ _ _ _ _ _ (World.drew _)
            refine wpAny_ready (rs := [0]) (by kernel_rfl) (by simp) ?_
            refine AllReady.cons rfl (fun K hK => ?_) AllReady.nil
            go_simp
            refine hK _ _ ?_; clear hK K
            refine wpAny_ready (rs := [1]) (by kernel_rfl) (by simp) ?_
            refine AllReady.cons rfl (fun K hK => ?_) AllReady.nil
            go_simp
            go_wp2_with (go_at_call 23; refine (served_at (F k) true HV.out _).mono ?_; rintro e w' ⟨rfl, rfl⟩)
            refine wpAny_ready (rs := [2]) (by kernel_rfl) (by simp) ?_
            refine AllReady.cons rfl (fun K hK => ?_) AllReady.nil
            go_simp
            refine hK _ _ ?_; clear hK K
            refine wpAny_ready (rs := [3]) (by kernel_rfl) (by simp) ?_
            refine AllReady.cons rfl (fun K hK => ?_) AllReady.nil
            go_simp
            refine hK _ _ ?_; clear hK K
            refine wpAny_ready (rs := [4]) (by kernel_rfl) (by simp) ?_
            refine AllReady.cons rfl (fun K hK => ?_) AllReady.nil
            go_simp
            refine hK _ _ ?_; clear hK K
            refine wpAny_ready (rs := [5]) (by kernel_rfl) (by simp) ?_
            refine AllReady.cons rfl (fun K hK => ?_) AllReady.nil
            go_simp
            refine hK _ _ ?_; clear hK K
            refine wpAny_take (i := 6) (v := undef) rfl (by kernel_rfl) (by kernel_rfl) (by kernel_rfl) (fun _ _ _ h => h) (Or.inr ⟨by rfl, rfl⟩) ?_
            go_simp
            refine wpAny_take (i := 7) (v := undef) rfl (by kernel_rfl) (by kernel_rfl) (by kernel_rfl) (fun _ _ _ h => h) (Or.inr ⟨by rfl, rfl⟩) ?_
            go_simp
            refine wpAny_take (i := 8) (v := undef) rfl (by kernel_rfl) (by kernel_rfl) (by kernel_rfl) (fun _ _ _ h => h) (Or.inr ⟨by rfl, rfl⟩) ?_
            go_simp
            refine wpAny_take (i := 9) (v := undef) rfl (by kernel_rfl) (by kernel_rfl) (by kernel_rfl) (fun _ _ _ h => h) (Or.inr ⟨by rfl, rfl⟩) ?_
            go_simp
            refine wpAny_take (i := 10) (v := undef) rfl (by kernel_rfl) (by kernel_rfl) (by kernel_rfl) (fun _ _ _ h => h) (Or.inr ⟨by rfl, rfl⟩) ?_
            go_simp
            refine wpAny_take (i := 11) (v := undef) rfl (by kernel_rfl) (by kernel_rfl) (by kernel_rfl) (fun _ _ _ h => h) (Or.inr ⟨by rfl, rfl⟩) ?_
            go_simp
            refine wpAny_take (i := 12) (v := undef) rfl (by kernel_rfl) (by kernel_rfl) (by kernel_rfl) (fun _ _ _ h => h) (Or.inr ⟨by rfl, rfl⟩) ?_
            go_simp
            refine wpAny_take (i := 13) (v := undef) rfl (by kernel_rfl) (by kernel_rfl) (by kernel_rfl) (fun _ _ _ h => h) (Or.inr ⟨by rfl, rfl⟩) ?_
            go_simp
            refine wpAny_ready (rs := [14]) (by kernel_rfl) (by simp) ?_
            refine AllReady.cons rfl (fun K hK => ?_) AllReady.nil
            go_simp
            refine hK _ _ ?_; clear hK K
            refine wpAny_ready (rs := [15]) (by kernel_rfl) (by simp) ?_
            refine AllReady.cons rfl (fun K hK => ?_) AllReady.nil
            go_simp
            refine hK _ _ ?_; clear hK K
            refine wpAny_done (by kernel_rfl) ?_ _
            refine NoPanic.normal ?_
            go_wp2_with fail
            go_meet
            exact ⟨⟨true, rfl, hide ⟨fun _ => ⟨HV.out, .inl hneg⟩, fun _ => rfl⟩⟩, ((hnx.alloc hsz _).alloc (by simp; omega) _).drew⟩
          · have hdn : decide (g < 0) = false := decide_eq_false hneg
            obtain ⟨q, rfl⟩ : ∃ q : Nat, g = q := ⟨g.toNat, by omega⟩
            have hqn : q < n := by omega
            have hcq := (HP.out q hqn).1
            rw [Nat.zero_add] at hcq
            refine wp_region_noPanic ?_
            refine wp_region_any (by kernel_rfl) ?_
            change wpAny _ _ _ _ _ _ _ (World.drew _)
            refine wpAny_ready (rs := [0]) (by kernel_rfl) (by simp) ?_
            refine AllReady.cons rfl (fun K hK => ?_) AllReady.nil
            go_simp
            refine hK _ _ ?_; clear hK K
            refine wpAny_ready (rs := [1]) (by kernel_rfl) (by simp) ?_
            refine AllReady.cons rfl (fun K hK => ?_) AllReady.nil
            go_simp
            go_wp2_with (go_at_call 23; refine (served_at (F k) true HV.out _).mono ?_; rintro e w' ⟨rfl, rfl⟩)
            refine wpAny_ready (rs := [2]) (by kernel_rfl) (by simp) ?_
            refine AllReady.cons rfl (fun K hK => ?_) AllReady.nil
            go_simp
            refine hK _ _ ?_; clear hK K
            refine wpAny_ready (rs := [3]) (by kernel_rfl) (by simp) ?_
            refine AllReady.cons rfl (fun K hK => ?_) AllReady.nil
            go_simp
            refine hK _ _ ?_; clear hK K
            refine wpAny_ready (rs := [4]) (by kernel_rfl) (by simp) ?_
            refine AllReady.cons rfl (fun K hK => ?_) AllReady.nil
            go_simp
            refine hK _ _ ?_; clear hK K
            refine wpAny_ready (rs := [5]) (by kernel_rfl) (by simp) ?_
            refine AllReady.cons rfl (fun K hK => ?_) AllReady.nil
            go_simp
            refine hK _ _ ?_; clear hK K
            refine wpAny_take (i := 6) (v := ?_) rfl (by kernel_rfl) (by kernel_rfl) (by kernel_rfl) (fun _ _ _ h => h) (Or.inl ⟨by rfl, by intro wz; go_simp; with_reducible rfl⟩) ?_
            go_simp
            refine wpAny_take (i := 8) (v := ?_) rfl (by kernel_rfl) (by kernel_rfl) (by kernel_rfl) (fun _ _ _ h => h) (Or.inl ⟨by rfl, by intro wz; go_simp; with_reducible rfl⟩) ?_
            go_simp
            refine wpAny_take (i := 9) (v := ?_) rfl (by kernel_rfl) (by kernel_rfl) (by kernel_rfl) (fun _ _ _ h => h) (Or.inl ⟨by rfl, by intro wz; go_simp; with_reducible rfl⟩) ?_
            go_simp
            refine wpAny_take (i := 10) (v := ?_) rfl (by kernel_rfl) (by kernel_rfl) (by kernel_rfl) (fun _ _ _ h => h) (Or.inl ⟨by rfl, by intro wz; go_simp; with_reducible rfl⟩) ?_
            go_simp
            refine wpAny_take (i := 11) (v := ?_) rfl (by kernel_rfl) (by kernel_rfl) (by kernel_rfl) (fun _ _ _ h => h) (Or.inl ⟨by rfl, by intro wz; go_simp; with_reducible rfl⟩) ?_
            go_simp
            refine wpAny_ready (rs := [7, 12]) (by kernel_rfl) (by simp) ?_
            refine AllReady.cons rfl (fun K hK => ?_) (AllReady.cons rfl (fun K hK => ?_) AllReady.nil)
            · go_simp
              refine hK _ _ ?_; clear hK K
              refine wpAny_ready (rs := [12]) (by kernel_rfl) (by simp) ?_
              refine AllReady.cons rfl (fun K hK => ?_) AllReady.nil
              go_simp
              refine hK _ _ ?_; clear hK K
              refine wpAny_ready (rs := [13]) (by kernel_rfl) (by simp) ?_
              refine AllReady.cons rfl (fun K hK => ?_) AllReady.nil
              go_simp
              refine hK _ _ ?_; clear hK K
              refine wpAny_ready (rs := [14]) (by kernel_rfl) (by simp) ?_
              refine AllReady.cons rfl (fun K hK => ?_) AllReady.nil
              go_simp
              refine hK _ _ ?_; clear hK K
              refine wpAny_ready (rs := [15]) (by kernel_rfl) (by simp) ?_
              refine AllReady.cons rfl (fun K hK => ?_) AllReady.nil
              go_simp
              refine hK _ _ ?_; clear hK K
              refine wpAny_done (by kernel_rfl) ?_ _
              refine NoPanic.normal ?_
              go_wp2_with fail
              go_meet
              exact ⟨⟨_, rfl, hide ⟨fun h => ⟨HV.out, .inr (of_decide_eq_true h)⟩, fun h => decide_eq_true (h.2.resolve_left (by omega))⟩⟩, ((hnx.alloc hsz _).alloc (by simp; omega) _).drew⟩
            · go_simp
              refine hK _ _ ?_; clear hK K
              refine wpAny_ready (rs := [7]) (by kernel_rfl) (by simp) ?_
              refine AllReady.cons rfl (fun K hK => ?_) AllReady.nil
              go_simp
              refine hK _ _ ?_; clear hK K
              refine wpAny_ready (rs := [13]) (by kernel_rfl) (by simp) ?_
              refine AllReady.cons rfl (fun K hK => ?_) AllReady.nil
              go_simp
              refine hK _ _ ?_; clear hK K
              refine wpAny_ready (rs := [14]) (by kernel_rfl) (by simp) ?_
              refine AllReady.cons rfl (fun K hK => ?_) AllReady.nil
              go_simp
              refine hK _ _ ?_; clear hK K
              refine wpAny_ready (rs := [15]) (by kernel_rfl) (by simp) ?_
              refine AllReady.cons rfl (fun K hK => ?_) AllReady.nil
              go_simp
              refine hK _ _ ?_; clear hK K
              refine wpAny_done (by kernel_rfl) ?_ _
              refine NoPanic.normal ?_
              go_wp2_with fail
              go_meet
              exact ⟨⟨_, rfl, hide ⟨fun h => ⟨HV.out, .inr (of_decide_eq_true h)⟩, fun h => decide_eq_true (h.2.resolve_left (by omega))⟩⟩, ((hnx.alloc hsz _).alloc (by simp; omega) _).drew⟩
        · have HV : Hid (sv (F k) = false) := hide (by simpa using hsv)
          clear hsv
          refine wp_region_noPanic ?_
          refine wp_region_any (by kernel_rfl) ?_
          change wpAny _ _ _ _ _ _ _ (World.drew _)
          refine wpAny_ready (rs := [0]) (by kernel_rfl) (by simp) ?_
          refine AllReady.cons rfl (fun K hK => ?_) AllReady.nil
          go_simp
          refine hK _ _ ?_; clear hK K
          refine wpAny_ready (rs := [1]) (by kernel_rfl) (by simp) ?_
          refine AllReady.cons rfl (fun K hK => ?_) AllReady.nil
          go_simp
          go_wp2_with (go_at_call 23; refine (served_at (F k) false HV.out _).mono ?_; rintro e w' ⟨rfl, rfl⟩)
          refine wpAny_ready (rs := [2]) (by kernel_rfl) (by simp) ?_
          refine AllReady.cons rfl (fun K hK => ?_) AllReady.nil
          go_simp
          refine hK _ _ ?_; clear hK K
          refine wpAny_take (i := 3) (v := undef) rfl (by kernel_rfl) (by kernel_rfl) (by kernel_rfl) (fun _ _ _ h => h) (Or.inr ⟨by rfl, rfl⟩) ?_
          go_simp
          refine wpAny_take (i := 4) (v := undef) rfl (by kernel_rfl) (by kernel_rfl) (by kernel_rfl) (fun _ _ _ h => h) (Or.inr ⟨by rfl, rfl⟩) ?_
          go_simp
          refine wpAny_take (i := 5) (v := undef) rfl (by kernel_rfl) (by kernel_rfl) (by kernel_rfl) (fun _ _ _ h => h) (Or.inr ⟨by rfl, rfl⟩) ?_
          go_simp
          refine wpAny_take (i := 6) (v := undef) rfl (by kernel_rfl) (by kernel_rfl) (by kernel_rfl) (fun _ _ _ h => h) (Or.inr ⟨by rfl, rfl⟩) ?_
          go_simp
          refine wpAny_take (i := 7) (v := undef) rfl (by kernel_rfl) (by kernel_rfl) (by kernel_rfl) (fun _ _ _ h => h) (Or.inr ⟨by rfl, rfl⟩) ?_
          go_simp
          refine wpAny_take (i := 8) (v := undef) rfl (by kernel_rfl) (by kernel_rfl) (by kernel_rfl) (fun _ _ _ h => h) (Or.inr ⟨by rfl, rfl⟩) ?_
          go_simp
          refine wpAny_take (i := 9) (v := undef) rfl (by kernel_rfl) (by kernel_rfl) (by kernel_rfl) (fun _ _ _ h => h) (Or.inr ⟨by rfl, rfl⟩) ?_
          go_simp
          refine wpAny_take (i := 10) (v := undef) rfl (by kernel_rfl) (by kernel_rfl) (by kernel_rfl) (fun _ _ _ h => h) (Or.inr ⟨by rfl, rfl⟩) ?_
          go_simp
          refine wpAny_take (i := 11) (v := undef) rfl (by kernel_rfl) (by kernel_rfl) (by kernel_rfl) (fun _ _ _ h => h) (Or.inr ⟨by rfl, rfl⟩) ?_
          go_simp
          refine wpAny_take (i := 12) (v := undef) rfl (by kernel_rfl) (by kernel_rfl) (by kernel_rfl) (fun _ _ _ h => h) (Or.inr ⟨by rfl, rfl⟩) ?_
          go_simp
          refine wpAny_take (i := 13) (v := undef) rfl (by kernel_rfl) (by kernel_rfl) (by kernel_rfl) (fun _ _ _ h => h) (Or.inr ⟨by rfl, rfl⟩) ?_
          go_simp
          refine wpAny_take (i := 14) (v := undef) rfl (by kernel_rfl) (by kernel_rfl) (by kernel_rfl) (fun _ _ _ h => h) (Or.inr ⟨by rfl, rfl⟩) ?_
          go_simp
          refine wpAny_ready (rs := [15]) (by kernel_rfl) (by simp) ?_
          refine AllReady.cons rfl (fun K hK => ?_) AllReady.nil
          go_simp
          refine hK _ _ ?_; clear hK K
          refine wpAny_done (by kernel_rfl) ?_ _
          refine NoPanic.normal ?_
          go_wp2_with fail
          go_meet
          exact ⟨⟨false, rfl, hide ⟨fun h => by simp at h, fun h => by rw [HV.out] at h; simp at h⟩⟩, ((hnx.alloc hsz _).alloc (by simp; omega) _).drew⟩
      case rest =>
        obtain ⟨⟨m, rfl, HM⟩, hnx2⟩ := hcut
        cases m
        · have HB : Hid (best F (k + 1) = g) := hide (by
            simp only [best, HG.out]
            rw [if_neg (fun h => by have := HM.out.2 h; cases this)])
          go_wp2
          go_roundw
          case rel => exact ⟨k + 1, g, by omega, by go_num, rfl, r0, by omega, HB, hnx2⟩
          case measure => simp [intOf]; omega
        · have HB : Hid (best F (k + 1) = k) := hide (by
            simp only [best, HG.out]
            rw [if_pos (HM.out.1 rfl)])
          go_wp2
          go_roundw
          case rel => exact ⟨k + 1, k, by omega, by go_num, rfl, by omega, by omega, HB, hnx2⟩
          case measure => simp [intOf]; omega
    · go_wp2
      go_ret
      exact ⟨ret_int (by rw [← HG.out, show k = n from by omega]), hnx⟩
end Go.Proofs.Qxb6602998a
