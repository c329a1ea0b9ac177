/- The walks of seat b6602994a: scanDecimal. -/
import Derived.Test.Qxb6602994aWalkA
namespace Go.Proofs.Qxb6602994a
open Go.RowKit Plain
set_option linter.unusedVariables false

theorem scanDigits_at (s : ByteArray) (i N : Nat) (sep : Bool) (HN : Hid (i + digL sep ((bs s).drop i) = N)) (w : World) (hs : s.size ≤ 1048576) (hi : i ≤ 9223372036854775807) :
    Calls Try.prog 38 #[.string s, .int .i64 i, .func (.func 39) #[] #[], .bool sep] w fun e w' => e = .returned (.int .i64 N) ∧ w' = w := by
  have := scanDigits_any s i sep w hs hi
  rw [HN.out] at this
  exact this

section math
variable {s : ByteArray} {sep : Bool} {i a b q : Nat}

theorem at_bound (HA : Hid (i + digL sep ((bs s).drop i) = a)) : i ≤ a ∧ (a ≤ s.size ∨ a = i) := by
  have h := HA.out
  have hl := digL_le sep ((bs s).drop i)
  rw [List.length_drop, bs_length] at hl
  omega

theorem drop_at (HA : Hid (i + digL sep ((bs s).drop i) = a)) : ((bs s).drop i).drop (digL sep ((bs s).drop i)) = (bs s).drop a := by
  rw [List.drop_drop, HA.out]

theorem dec_dot (HA : Hid (i + digL sep ((bs s).drop i) = a)) (HB : Hid (a + 1 + digL sep ((bs s).drop (a + 1)) = b)) (h : a < s.size) (h46 : isc 46 s[a] = true)
    (hn : ¬ (a = i ∧ b = a + 1)) : b + expo sep ((bs s).drop b) = i + scanL sep ((bs s).drop i) := by
  have hA := HA.out
  have hB := HB.out
  unfold scanL
  rw [drop_at HA, bs_drop s a h]
  simp only [h46, if_true]
  rw [if_neg (by omega), List.drop_drop, hB]
  omega

theorem dec_lone (HA : Hid (i + digL sep ((bs s).drop i) = a)) (HB : Hid (a + 1 + digL sep ((bs s).drop (a + 1)) = b)) (h : a < s.size) (h46 : isc 46 s[a] = true)
    (hn : a = i ∧ b = a + 1) : i = i + scanL sep ((bs s).drop i) := by
  have hA := HA.out
  have hB := HB.out
  unfold scanL
  rw [drop_at HA, bs_drop s a h]
  simp only [h46, if_true]
  rw [if_pos (by omega)]
  omega

theorem dec_int (HA : Hid (i + digL sep ((bs s).drop i) = a)) (h46 : ∀ h : a < s.size, isc 46 s[a] = false) (hn : i < a) :
    a + expo sep ((bs s).drop a) = i + scanL sep ((bs s).drop i) := by
  have hA := HA.out
  unfold scanL
  rw [drop_at HA]
  by_cases h : a < s.size
  · rw [bs_drop s a h]
    simp only [h46 h, Bool.false_eq_true, if_false]
    rw [if_neg (by omega)]
    omega
  · rw [bs_drop_end s a (by omega)]
    simp only [expo]
    omega

theorem dec_none (HA : Hid (i + digL sep ((bs s).drop i) = a)) (h46 : ∀ h : a < s.size, isc 46 s[a] = false) (hn : a = i) :
    i = i + scanL sep ((bs s).drop i) := by
  have hA := HA.out
  unfold scanL
  rw [drop_at HA]
  by_cases h : a < s.size
  · rw [bs_drop s a h]
    simp only [h46 h, Bool.false_eq_true, if_false]
    rw [if_pos (by omega)]
    omega
  · rw [bs_drop_end s a (by omega)]
    simp only
    omega

theorem exp_none {N : Nat} (HQ : Hid (q + expo sep ((bs s).drop q) = N)) (he : ∀ h : q < s.size, isE s[q] = false) : q = N := by
  have hQ := HQ.out
  by_cases h : q < s.size
  · rw [bs_drop s q h] at hQ
    simpa [expo, he h] using hQ
  · rw [bs_drop_end s q (by omega)] at hQ
    simpa [expo] using hQ

theorem exp_some {N j k : Nat} (HQ : Hid (q + expo sep ((bs s).drop q) = N)) (h : q < s.size) (he : isE s[q] = true) (hj : q + 1 + sgn ((bs s).drop (q + 1)) = j)
    (HK : Hid (j + digL sep ((bs s).drop j) = k)) : N = if j < k then k else q := by
  have hQ := HQ.out
  have hK := HK.out
  rw [bs_drop s q h] at hQ
  simp only [expo, he, if_true, List.drop_drop, hj] at hQ
  by_cases hk : j < k
  · rw [if_pos hk]
    rw [if_pos (by omega)] at hQ
    omega
  · rw [if_neg hk]
    rw [if_neg (by omega)] at hQ
    omega

theorem sgn_end (h : s.size ≤ q) : sgn ((bs s).drop q) = 0 := by rw [bs_drop_end s q h]; rfl
theorem sgn_yes (h : q < s.size) (hs : isS s[q] = true) : sgn ((bs s).drop q) = 1 := by rw [bs_drop s q h]; simp [sgn, hs]
theorem sgn_no (h : q < s.size) (hs : isS s[q] = false) : sgn ((bs s).drop q) = 0 := by rw [bs_drop s q h]; simp [sgn, hs]
end math

set_option maxRecDepth 100000 in
set_option maxHeartbeats 1000000 in
theorem scanDecimal_any (s : ByteArray) (i : Nat) (sep : Bool) (w : World) (hs : s.size ≤ 1048576) (hi : i ≤ 9223372036854775807) :
    Calls Try.prog 32 #[.string s, .int .i64 i, .bool sep] w fun e w' => e = .returned (.int .i64 (i + scanL sep ((bs s).drop i) : Nat)) ∧ w' = w := by
  generalize hN : i + scanL sep ((bs s).drop i) = N
  have HN := hide hN
  clear hN
  obtain ⟨a, HA⟩ : ∃ a, Hid (i + digL sep ((bs s).drop i) = a) := ⟨_, hide rfl⟩
  obtain ⟨hia, hai⟩ := at_bound HA
  have haM : a ≤ 9223372036854775807 := by omega
  have HAI := hide hai
  clear hai
  go_enter Try.func32, Try.ntmps32
  go_wp2_with fail
  refine (scanDigits_at s i a sep HA _ hs hi).mono ?_
  rintro e w' ⟨rfl, rfl⟩
  go_upto_region 4 with fail
  go_cut [29] (fun v wx => (∃ m : Bool, v = .bool m ∧ Hid (m = true ↔ ∃ h : a < s.size, isc 46 s[a] = true)) ∧ wx = w')
  case first =>
    by_cases hlt : a < s.size
    · go_wp2
      go_meet
      exact ⟨⟨_, rfl, hide ⟨fun h => ⟨hlt, h⟩, fun ⟨_, h⟩ => h⟩⟩, rfl⟩
    · have hge : (s.size : Int) ≤ (a : Int) := by omega
      go_wp2
      go_meet
      exact ⟨⟨_, rfl, hide ⟨fun h => by simp at h, fun ⟨h, _⟩ => absurd h hlt⟩⟩, rfl⟩
  case rest =>
  obtain ⟨⟨m, rfl, HM⟩, rfl⟩ := hcut
  go_upto_if 29 with fail
  go_cut [1, 8] (fun v _ wx => (∃ q : Nat, v = .int .i64 q ∧ q ≤ s.size ∧ Hid (q + expo sep ((bs s).drop q) = N)) ∧ wx = wc)
  case first =>
    cases m
    · have H46 : Hid (∀ h : a < s.size, isc 46 s[a] = false) := hide fun h => by
        rw [Bool.eq_false_iff]; intro h2; have := HM.out.2 ⟨h, h2⟩; cases this
      by_cases hd : i < a
      · go_wp2
        go_meet
        exact ⟨⟨a, rfl, by have := HAI.out; omega, hide (by rw [← HN.out]; exact dec_int HA H46.out hd)⟩, rfl⟩
      · have HE := hide (dec_none HA H46.out (by omega))
        go_wp2
        go_ret
        exact ⟨ret_int (by rw [← HN.out]; exact congrArg _ HE.out), rfl⟩
    · obtain ⟨hlt, h46⟩ := HM.out.1 rfl
      have H46 := hide h46
      clear h46
      obtain ⟨b, HB⟩ : ∃ b, Hid (a + 1 + digL sep ((bs s).drop (a + 1)) = b) := ⟨_, hide rfl⟩
      obtain ⟨hab, hbs0⟩ := at_bound HB
      have hbs : b ≤ s.size := by omega
      clear hbs0
      by_cases hd : i < a
      · go_wp2_with fail
        refine (scanDigits_at s (a + 1) b sep HB _ hs (by omega)).mono ?_
        rintro e w' ⟨rfl, rfl⟩
        go_wp2_with fail
        go_meet
        exact ⟨⟨b, rfl, by omega, hide (by rw [← HN.out]; exact dec_dot HA HB hlt H46.out (by omega))⟩, rfl⟩
      · by_cases hb : b = a + 1
        · have HE := hide (dec_lone HA HB hlt H46.out ⟨by omega, hb⟩)
          have HB' := hide hb
          subst hb
          go_wp2_with fail
          refine (scanDigits_at s (a + 1) (a + 1) sep HB _ hs (by omega)).mono ?_
          rintro e w' ⟨rfl, rfl⟩
          go_wp2_with fail
          go_ret
          exact ⟨ret_int (by rw [← HN.out]; exact congrArg _ HE.out), rfl⟩
        · have hb' : ((b : Int) == (a : Int) + 1) = false := by simp; omega
          go_wp2_with fail
          refine (scanDigits_at s (a + 1) b sep HB _ hs (by omega)).mono ?_
          rintro e w' ⟨rfl, rfl⟩
          go_wp2_with fail
          go_meet
          exact ⟨⟨b, rfl, by omega, hide (by rw [← HN.out]; exact dec_dot HA HB hlt H46.out (by omega))⟩, rfl⟩
  case rest =>
  obtain ⟨⟨q, rfl, hq, HQ⟩, rfl⟩ := hcut
  clear HM HN HAI HA
  by_cases hlt : q < s.size
  · by_cases he : isE s[q] = true
    · have HE := hide he
      have he1 : ((s[q].toNat : Int) == 101) = true ∨ (((s[q].toNat : Int) == 101) = false ∧ ((s[q].toNat : Int) == 69) = true) := by
        simp [isE, isc] at he ⊢; omega
      clear he
      go_upto_region 11 with fail
      go_cut [63] (fun v wx => v = .bool true ∧ wx = wc)
      case first =>
        rcases he1 with h1 | ⟨h1, h2⟩
        · go_wp2
          go_meet
          exact ⟨rfl, rfl⟩
        · go_wp2
          go_meet
          exact ⟨rfl, rfl⟩
      case rest =>
      obtain ⟨rfl, rfl⟩ := hcut
      clear he1
      go_upto_region 13 with fail
      go_cut [81] (fun v wx => (∃ m : Bool, v = .bool m ∧ Hid (sgn ((bs s).drop (q + 1)) = if m then 1 else 0)) ∧ wx = wc)
      case first =>
        by_cases hlt2 : q + 1 < s.size
        · by_cases h1 : isc 43 s[q + 1] = true
          · have h1' : ((s[q + 1].toNat : Int) == 43) = true := h1
            have HS := hide (sgn_yes hlt2 (by simp [isS, h1]))
            clear h1
            go_wp2
            go_meet
            exact ⟨⟨_, rfl, HS⟩, rfl⟩
          · have h1' : ((s[q + 1].toNat : Int) == 43) = false := by simpa [isc] using h1
            by_cases h2 : isc 45 s[q + 1] = true
            · have h2' : ((s[q + 1].toNat : Int) == 45) = true := h2
              have HS := hide (sgn_yes hlt2 (by simp [isS, h2]))
              clear h1 h2
              go_wp2
              go_meet
              exact ⟨⟨_, rfl, HS⟩, rfl⟩
            · have h2' : ((s[q + 1].toNat : Int) == 45) = false := by simpa [isc] using h2
              have HS := hide (sgn_no hlt2 (by simp [isS, h1, h2]))
              clear h1 h2
              go_wp2
              go_meet
              exact ⟨⟨_, rfl, HS⟩, rfl⟩
        · have hge : (s.size : Int) ≤ (q : Int) + 1 := by omega
          have HS := hide (sgn_end (s := s) (q := q + 1) (by omega))
          go_wp2
          go_meet
          exact ⟨⟨_, rfl, HS⟩, rfl⟩
      case rest =>
      obtain ⟨⟨m, rfl, HS⟩, rfl⟩ := hcut
      go_upto_if 81 with fail
      go_cut [10] (fun v wx => (∃ j : Nat, v = .int .i64 j ∧ Hid (q + 1 + sgn ((bs s).drop (q + 1)) = j) ∧ j ≤ s.size + 2) ∧ wx = wc)
      case first =>
        cases m
        · go_wp2
          go_meet
          exact ⟨⟨q + 1, by go_num, hide (by rw [HS.out]; rfl), by omega⟩, rfl⟩
        · go_wp2
          go_meet
          exact ⟨⟨q + 2, by go_num, hide (by rw [HS.out]; rfl), by omega⟩, rfl⟩
      case rest =>
      obtain ⟨⟨j, rfl, HJ, hj⟩, rfl⟩ := hcut
      obtain ⟨k, HK⟩ : ∃ k, Hid (j + digL sep ((bs s).drop j) = k) := ⟨_, hide rfl⟩
      obtain ⟨hjk, hks⟩ := at_bound HK
      have HR := hide (exp_some HQ hlt HE.out HJ.out HK)
      clear hks
      go_wp2_with fail
      refine (scanDigits_at s j k sep HK _ hs (by omega)).mono ?_
      rintro e w' ⟨rfl, rfl⟩
      by_cases hk : j < k
      · go_wp2_with fail
        go_ret
        exact ⟨ret_int (by rw [HR.out, if_pos hk]), rfl⟩
      · go_wp2_with fail
        go_ret
        exact ⟨ret_int (by rw [HR.out, if_neg hk]), rfl⟩
    · have h1 : ((s[q].toNat : Int) == 101) = false := by simp [isE, isc] at he ⊢; omega
      have h2 : ((s[q].toNat : Int) == 69) = false := by simp [isE, isc] at he ⊢; omega
      have HE := hide (exp_none HQ (fun _ => by simpa using he))
      clear he
      go_wp2
      go_ret
      exact ⟨ret_int (by rw [HE.out]), rfl⟩
  · have hge : (s.size : Int) ≤ (q : Int) := by omega
    have HE := hide (exp_none HQ (fun h => absurd h hlt))
    go_wp2
    go_ret
    exact ⟨ret_int (by rw [HE.out]), rfl⟩

set_option maxHeartbeats 400000 in
theorem zzScan_any (s : ByteArray) (i : Nat) (sep : Bool) (w : World) (hs : s.size ≤ 1048576) (hi : i ≤ 9223372036854775807) :
    Calls Try.prog 18 #[.string s, .int .i64 i, .bool sep] w fun e w' => e = .returned (.int .i64 (i + scanL sep ((bs s).drop i) : Nat)) ∧ w' = w := by
  go_enter Try.func18, Try.ntmps18
  go_wp2_with fail
  refine (scanDecimal_any s i sep _ hs hi).mono ?_
  rintro e w' ⟨rfl, rfl⟩
  go_wp2_with fail
  go_ret
  exact ⟨rfl, rfl⟩

end Go.Proofs.Qxb6602994a
