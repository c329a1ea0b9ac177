/- The walk of FnScanDecimalTokenIsLocalAndRescansWhole. -/
import Derived.Test.Qxb6602994aWalkB
namespace Go.Proofs.Qxb6602994a
open Go.RowKit Plain
set_option linter.unusedVariables false

theorem zzScan_at (s : ByteArray) (i N : Nat) (sep : Bool) (HN : Hid (i + scanL sep ((bs s).drop i) = N)) (w : World) (hs : s.size ≤ 1048576) (hi : i ≤ 9223372036854775807) :
    Calls Try.prog 18 #[.string s, .int .i64 i, .bool sep] w fun e w' => e = .returned (.int .i64 N) ∧ w' = w := by
  have := zzScan_any s i sep w hs hi
  rw [HN.out] at this
  exact this
theorem zzScan_0 (s : ByteArray) (N : Nat) (sep : Bool) (HN : Hid (scanL sep (bs s) = N)) (w : World) (hs : s.size ≤ 1048576) :
    Calls Try.prog 18 #[.string s, .int .i64 0, .bool sep] w fun e w' => e = .returned (.int .i64 N) ∧ w' = w :=
  zzScan_at s 0 N sep (hide (by rw [List.drop_zero, Nat.zero_add]; exact HN.out)) w hs (by omega)

theorem bs_extract (b : ByteArray) (i k : Nat) : bs (b.extract i k) = ((bs b).drop i).take (k - i) := by
  unfold bs; rw [ByteArray.data_extract, Array.toList_extract, List.extract_eq_take_drop]

set_option maxHeartbeats 400000 in
theorem zzBytes20_any (s : ByteArray) (i : Int) (sep : Bool) (w : World) (hs : s.size ≤ maxLen) :
    Calls Try.prog 20 #[.string s, .int .i64 i, .bool sep] w fun e w' => e = .returned (.bool (decide (s.size ≤ 1048576))) ∧ w' = w := by
  unfold maxLen at hs
  by_cases h : s.size ≤ 1048576
  · go_enter Try.func20, Try.ntmps20
    go_wp2
    go_ret
    exact ⟨ret_bool (by simp [h]), rfl⟩
  · have h' : (1048576 : Int) < (s.size : Int) := by omega
    go_enter Try.func20, Try.ntmps20
    go_wp2
    go_ret
    exact ⟨ret_bool (by simp; omega), rfl⟩

set_option maxHeartbeats 1000000 in
theorem token_any (s : ByteArray) (i : Int) (sep : Bool) (w : World) (hs : s.size ≤ maxLen) (hi : i ≤ 9223372036854775807) :
    Calls Try.prog 6 #[.string s, .int .i64 i, .bool sep] w fun e w' => e = .returned (.bool true) ∧ w' = w := by
  have hz := zzBytes20_any s i sep w hs
  by_cases hb : s.size ≤ 1048576
  · rw [decide_eq_true hb] at hz
    have hz := hide hz
    by_cases hneg : i < 0
    · go_enter Try.func6, Try.ntmps6
      go_wp2_with fail
      refine hz.out.mono ?_
      rintro e w' ⟨rfl, rfl⟩
      go_wp2_with fail
      go_ret
      exact ⟨rfl, rfl⟩
    · obtain ⟨n, rfl⟩ : ∃ n : Nat, i = n := ⟨i.toNat, by omega⟩
      have hn : n ≤ 9223372036854775807 := by omega
      clear hneg hi
      by_cases hlt : s.size < n
      · have HN : Hid (n + scanL sep ((bs s).drop n) = n) := hide (by rw [bs_drop_end s n (by omega)]; simp [scanL, digL])
        go_enter Try.func6, Try.ntmps6
        go_wp2_with fail
        refine hz.out.mono ?_
        rintro e w' ⟨rfl, rfl⟩
        go_wp2_with fail
        refine (zzScan_at s n n sep HN _ hb hn).mono ?_
        rintro e w' ⟨rfl, rfl⟩
        go_wp2_with fail
        go_ret
        exact ⟨rfl, rfl⟩
      · have hle := scan_le sep ((bs s).drop n)
        rw [List.length_drop, bs_length] at hle
        obtain ⟨K, hK⟩ : ∃ K, scanL sep ((bs s).drop n) = K := ⟨_, rfl⟩
        obtain ⟨R, hR⟩ : ∃ R, n + K = R := ⟨_, rfl⟩
        have HN : Hid (n + scanL sep ((bs s).drop n) = R) := hide (by omega)
        have H1 : Hid (scanL sep (bs (s.extract n s.size)) = K) := hide (by
          rw [bs_extract, List.take_of_length_le (by rw [List.length_drop, bs_length]; omega)]; exact hK)
        have H2 : Hid (scanL sep (bs (s.extract n R)) = K) := hide (by
          rw [bs_extract, show R - n = K from by omega, ← hK]; exact scan_take sep _)
        have hRs : R ≤ s.size := by omega
        have hnR : n ≤ R := by omega
        have e1 : ((K : Int) != (R : Int) - (n : Int)) = false := by simp; omega
        have e2 : ((K : Int) == (R : Int) - (n : Int)) = true := by simp; omega
        have z1 : (s.extract n s.size).size ≤ 1048576 := by rw [ByteArray.size_extract]; omega
        have z2 : (s.extract n R).size ≤ 1048576 := by rw [ByteArray.size_extract]; omega
        clear hK hR hle
        go_enter Try.func6, Try.ntmps6
        go_wp2_with fail
        refine hz.out.mono ?_
        rintro e w' ⟨rfl, rfl⟩
        go_wp2_with fail
        refine (zzScan_at s n R sep HN _ hb hn).mono ?_
        rintro e w' ⟨rfl, rfl⟩
        go_wp2_with fail
        refine (zzScan_0 (s.extract n s.size) K sep H1 _ z1).mono ?_
        rintro e w' ⟨rfl, rfl⟩
        go_wp2_with fail
        refine (zzScan_0 (s.extract n R) K sep H2 _ z2).mono ?_
        rintro e w' ⟨rfl, rfl⟩
        go_wp2_with fail
        go_ret
        exact ⟨rfl, rfl⟩
  · rw [decide_eq_false hb] at hz
    have hz := hide hz
    go_enter Try.func6, Try.ntmps6
    go_wp2_with fail
    refine hz.out.mono ?_
    rintro e w' ⟨rfl, rfl⟩
    go_wp2_with fail
    go_ret
    exact ⟨rfl, rfl⟩
end Go.Proofs.Qxb6602994a
