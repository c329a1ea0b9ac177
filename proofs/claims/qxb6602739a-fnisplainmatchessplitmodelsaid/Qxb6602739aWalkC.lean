/- The walks of seat b6602739a: the split model. -/
import Derived.Test.Qxb6602739aWalkB
import Derived.Deep.RegionWith
namespace Go.Proofs.Qxb6602739a
open Go.RowKit Plain
set_option linter.unusedVariables false

theorem allDigits_of (s : ByteArray) (v : Bool) (h : (bs s).all dg = v) (w : World) (hs : s.size ≤ 9223372036854775807) :
    Calls Try.prog 14 #[.string s] w fun e w' => e = .returned (.bool v) ∧ w' = w := by
  refine (allDigits_any s w (by unfold maxLen; omega)).mono fun e w' he => ?_
  rw [← h]; exact he

theorem bs_mem_of {b : ByteArray} {k : Nat} (h : ∀ j, (hj : j < b.size) → j < k → pt b[j] = false) : ∀ c ∈ (bs b).take k, pt c = false := by
  intro c hc
  obtain ⟨j, hj, e⟩ := List.mem_take_iff_getElem.mp hc
  have hj' : j < b.size := by rw [← bs_length]; omega
  have := h j hj' (by omega)
  rw [← e]; exact this
theorem bs_take (b : ByteArray) (k : Nat) : bs (b.extract 0 k) = (bs b).take k := by
  unfold bs; rw [ByteArray.data_extract, Array.toList_extract, List.extract_eq_take_drop]; simp
theorem bs_dropx (b : ByteArray) (k : Nat) : bs (b.extract k b.size) = (bs b).drop k := by
  unfold bs; rw [ByteArray.data_extract, Array.toList_extract, List.extract_eq_take_drop]
  exact List.take_of_length_le (by rw [List.length_drop]; exact Nat.le_refl _)
theorem bs_split (b : ByteArray) (k : Nat) (h : k < b.size) : bs b = bs (b.extract 0 k) ++ b[k] :: bs (b.extract (k + 1) b.size) := by
  rw [bs_take, bs_dropx, ← bs_drop b k h, List.take_append_drop]

theorem model_nodot {b s : ByteArray} {k : Nat} (HB : Hid (bs b = bodyL (bs s))) (hk : b.size ≤ k) (hn : ∀ j, (hj : j < b.size) → j < k → pt b[j] = false) :
    plainS s = (decide (0 < b.size) && (bs b).all dg) := by
  unfold plainS
  rw [← HB.out, scan_nodot _ ?_, bs_length]
  have := bs_mem_of hn
  rwa [List.take_of_length_le (by rw [bs_length]; exact hk)] at this

theorem model_dot {b s x y : ByteArray} {k : Nat} (HB : Hid (bs b = bodyL (bs s))) (hk : k < b.size) (hn : ∀ j, (hj : j < b.size) → j < k → pt b[j] = false)
    (hp : pt b[k] = true) (hx : b.extract 0 k = x) (hy : b.extract (k + 1) b.size = y) :
    plainS s = (decide (0 < x.size) && (bs x).all dg && decide (0 < y.size) && (bs y).all dg) := by
  unfold plainS
  have hm := bs_mem_of hn
  rw [← bs_take] at hm
  rw [← HB.out, bs_split b k hk, scan_dot _ _ _ hp hm, hx, hy, bs_length, bs_length]

set_option maxHeartbeats 400000 in
theorem model_any (s : ByteArray) (w : World) (hs : s.size ≤ maxLen) :
    Calls Try.prog 8 #[.string s] w fun e w' => e = .returned (.bool (plainS s)) ∧ w' = w := by
  unfold maxLen at hs
  go_enter Try.func8, Try.ntmps8
  go_upto_region 2 with fail
  go_cut [3, 16] (fun v0 v13 wx => v0 = .string s ∧ (∃ m : Bool, v13 = .bool m ∧ Hid (m = minusB s)) ∧ wx = w)
  case first =>
    by_cases h0 : 0 < s.size
    · have hm := hide (minusB_pos s h0)
      go_wp2
      go_meet
      exact ⟨rfl, ⟨_, rfl, hm⟩, rfl⟩
    · have hm := hide (minusB_neg s (by omega))
      go_wp2
      go_meet
      exact ⟨rfl, ⟨_, rfl, hm⟩, rfl⟩
  case rest =>
    obtain ⟨rfl, ⟨m, rfl, HM⟩, rfl⟩ := hcut
    go_upto_if 16 with fail
    go_cut [3, 16] (fun v0 v13 wx => (∃ b : ByteArray, v0 = .string b ∧ b.size ≤ 9223372036854775807 ∧ Hid (bs b = bodyL (bs s))) ∧ wx = wc)
    case first =>
      cases m
      · go_wp2
        go_meet
        exact ⟨⟨_, rfl, hs, hide (bodyL_no s HM.out.symm)⟩, rfl⟩
      · have h0 := minusB_size s HM.out.symm
        go_wp2
        go_meet
        exact ⟨⟨_, rfl, extract_size s hs, hide (bodyL_yes s HM.out.symm)⟩, rfl⟩
    case rest =>
      obtain ⟨⟨b, rfl, hb, HB⟩, rfl⟩ := hcut
      go_wp2
      go_loop [4, 5] (fun d i => d = .int .i64 (-1) ∧ ∃ (k : Nat), k ≤ b.size ∧ i = .int .i64 k ∧ Hid (∀ j, (hj : j < b.size) → j < k → pt b[j] = false)) (fun _ i => b.size - (intOf i).toNat)
      case atStart => exact ⟨rfl, 0, Nat.zero_le _, rfl, hide (fun j _ h => by omega)⟩
      case round =>
        obtain ⟨rfl, k, hk, rfl, HS⟩ := hrel
        by_cases hlt : k < b.size
        · by_cases hp : pt b[k] = true
          · have h4 : ((b[k].toNat : Int) == 46) = true := hp
            have HP := hide hp
            clear hp
            go_upto_region 14 with fail
            have hx0 : (b.extract 0 k).size = _ := ByteArray.size_extract
            have hy0 : (b.extract (k + 1) b.size).size = _ := ByteArray.size_extract
            generalize hx : b.extract 0 k = x at hx0 ⊢
            generalize hy : b.extract (k + 1) b.size = y at hy0 ⊢
            have HE := hide (model_dot HB hlt HS.out HP.out hx hy)
            have hxs : x.size ≤ 9223372036854775807 := by omega
            have hys : y.size ≤ 9223372036854775807 := by omega
            clear hx hy hx0 hy0 HS HB HP h4
            by_cases h1 : 0 < x.size
            · by_cases h2 : (bs x).all dg = true
              · by_cases h3 : 0 < y.size
                · go_wp2_with fail
                  refine (allDigits_of x true h2 _ hxs).mono ?_
                  rintro e w' ⟨rfl, rfl⟩
                  go_wp2_with fail
                  refine (allDigits_of y _ rfl _ hys).mono ?_
                  rintro e w' ⟨rfl, rfl⟩
                  go_wp2_with fail
                  go_ret
                  exact ⟨ret_bool (by rw [HE.out, h2]; simp [h1, h3]), rfl⟩
                · go_wp2_with (go_at_call 14; refine (allDigits_of x true h2 _ hxs).mono ?_; rintro e w' ⟨rfl, rfl⟩)
                  go_ret
                  exact ⟨ret_bool (by rw [HE.out]; simp [h3]), rfl⟩
              · have h2' : (bs x).all dg = false := by simpa using h2
                clear h2
                go_wp2_with (go_at_call 14; refine (allDigits_of x false h2' _ hxs).mono ?_; rintro e w' ⟨rfl, rfl⟩)
                go_ret
                exact ⟨ret_bool (by rw [HE.out, h2']; simp), rfl⟩
            · go_wp2_with fail
              go_ret
              exact ⟨ret_bool (by rw [HE.out]; simp [h1]), rfl⟩
          · have h4 : ((b[k].toNat : Int) == 46) = false := by simpa [pt] using hp
            have hp' : pt b[k] = false := by simpa using hp
            have HS' : Hid (∀ j, (hj : j < b.size) → j < k + 1 → pt b[j] = false) := hide fun j hj hjk => by
              by_cases e : j = k
              · subst e; exact hp'
              · exact HS.out j hj (by omega)
            clear hp hp'
            go_wp2
            go_round
            case rel => exact ⟨rfl, k + 1, by omega, by go_num, HS'⟩
            case measure => simp [intOf]; omega
        · have HE := hide (model_nodot HB (by omega) HS.out)
          by_cases h0 : 0 < b.size
          · go_wp2_with (go_at_call 14; refine (allDigits_of b _ rfl _ hb).mono ?_; rintro e w' ⟨rfl, rfl⟩)
            go_ret
            exact ⟨ret_bool (by rw [HE.out]; simp [h0]), rfl⟩
          · go_wp2_with (go_at_call 14; refine (allDigits_of b _ rfl _ hb).mono ?_; rintro e w' ⟨rfl, rfl⟩)
            go_ret
            exact ⟨ret_bool (by rw [HE.out]; simp [h0]), rfl⟩
end Go.Proofs.Qxb6602739a
