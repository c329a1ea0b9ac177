/- The walks of seat b6602739a: isPlain. -/
import Derived.Test.Qxb6602739aWalkA
import Derived.Deep.DeepCutAuto
namespace Go.Proofs.Qxb6602739a
open Go.RowKit Plain
set_option linter.unusedVariables false

/-- The string behind its one minus sign. -/
def bodyL (l : List UInt8) : List UInt8 := match l with
  | [] => []
  | c :: t => if (c.toNat : Int) == 45 then t else c :: t
def plainS (s : ByteArray) : Bool := scan (bodyL (bs s)) 0 false
def minusB (s : ByteArray) : Bool := match bs s with
  | [] => false
  | c :: _ => (c.toNat : Int) == 45

theorem bs_cons (s : ByteArray) (h : 0 < s.size) : bs s = s[0] :: (bs s).drop 1 := by
  have := bs_drop s 0 h; simpa using this
theorem minusB_pos (s : ByteArray) (h : 0 < s.size) : ((s[0].toNat : Int) == 45) = minusB s := by
  unfold minusB; rw [bs_cons s h]
theorem minusB_neg (s : ByteArray) (h : s.size = 0) : false = minusB s := by
  unfold minusB; rw [show bs s = [] from List.eq_nil_of_length_eq_zero (by rw [bs_length]; exact h)]
theorem minusB_size (s : ByteArray) (h : minusB s = true) : 0 < s.size := by
  by_cases h0 : s.size = 0
  · rw [← minusB_neg s h0] at h; cases h
  · omega
theorem bodyL_yes (s : ByteArray) (h : minusB s = true) : bs (s.extract 1 s.size) = bodyL (bs s) := by
  have h0 := minusB_size s h
  have h1 : bs (s.extract 1 s.size) = (bs s).drop 1 := by
    unfold bs; rw [ByteArray.data_extract, Array.toList_extract, List.extract_eq_take_drop]
    exact List.take_of_length_le (by rw [List.length_drop]; exact Nat.le_refl _)
  have h2 := minusB_pos s h0
  rw [h1]; rw [bs_cons s h0]; unfold bodyL
  simp only [h2, h]; simp
theorem bodyL_no (s : ByteArray) (h : minusB s = false) : bs s = bodyL (bs s) := by
  by_cases h0 : s.size = 0
  · rw [show bs s = [] from List.eq_nil_of_length_eq_zero (by rw [bs_length]; exact h0)]; rfl
  · have h2 := minusB_pos s (by omega)
    have hc := bs_cons s (by omega)
    unfold bodyL
    rw [hc]
    simp only [h2, h]
    simp
theorem extract_size (s : ByteArray) (h : s.size ≤ 9223372036854775807) : (s.extract 1 s.size).size ≤ 9223372036854775807 := by
  rw [ByteArray.size_extract]; omega

theorem scan_dig {l : List UInt8} {c : UInt8} {d : Nat} {p r : Bool} (hd : dg c = true) (h : scan (c :: l) d p = r) : scan l (d + 1) p = r := by
  simpa [scan, hd] using h
theorem scan_pt {l : List UInt8} {c : UInt8} {d : Nat} {p r : Bool} (hd : dg c = false) (h1 : pt c = true) (h2 : p = false) (h3 : 0 < d) (h : scan (c :: l) d p = r) : scan l 0 true = r := by
  simpa [scan, hd, h1, h2, h3] using h
theorem scan_no {l : List UInt8} {c : UInt8} {d : Nat} {p r : Bool} (hd : dg c = false) (h1 : ¬ (pt c = true ∧ p = false ∧ 0 < d)) (h : scan (c :: l) d p = r) : false = r := by
  have : (pt c && (!p && decide (0 < d))) = false := by
    rw [Bool.eq_false_iff]; intro hx; apply h1; simpa using hx
  simpa [scan, hd, this] using h

theorem not_dig {c : UInt8} {q : Bool} {n : Nat} (HC : Hid (dg c = false ∧ ¬ (pt c = true ∧ q = false ∧ 0 < n))) (h1 : 48 ≤ (c.toNat : Int)) (h2 : (c.toNat : Int) ≤ 57) : False := by
  have := HC.out.1; simp [dg] at this; omega
theorem not_pt {c : UInt8} {q : Bool} {n : Nat} (HC : Hid (dg c = false ∧ ¬ (pt c = true ∧ q = false ∧ 0 < n))) (h1 : (c.toNat : Int) = 46) (h2 : ¬ q = true) (h3 : 0 < n) : False :=
  HC.out.2 ⟨by unfold pt; rw [h1]; rfl, by simpa using h2, h3⟩

set_option maxHeartbeats 400000 in
theorem isPlain_any (s : ByteArray) (w : World) (hs : s.size ≤ maxLen) :
    Calls Try.prog 13 #[.string s] w fun e w' => e = .returned (.bool (plainS s)) ∧ w' = w := by
  unfold maxLen at hs
  go_enter Try.func13, Try.ntmps13
  go_upto_region 1 with fail
  go_cut [0, 13] (fun v0 v13 wx => v0 = .string s ∧ (∃ m : Bool, v13 = .bool m ∧ Hid (m = minusB s)) ∧ wx = w)
  case first =>
    by_cases h0 : 0 < s.size
    · have hm := hide (minusB_pos s h0)
      go_wp2
      go_meet
      exact ⟨rfl, ⟨_, rfl, hm⟩, rfl⟩
    · have hm := hide (minusB_neg s (by omega))
      go_wp2
      go_meet
      exact ⟨rfl, ⟨_, rfl, hm⟩, rfl⟩
  case rest =>
    obtain ⟨rfl, ⟨m, rfl, HM⟩, rfl⟩ := hcut
    go_upto_if 13 with fail
    go_cut [0, 13] (fun v0 v13 wx => (∃ b : ByteArray, v0 = .string b ∧ b.size ≤ 9223372036854775807 ∧ Hid (bs b = bodyL (bs s))) ∧ wx = wc)
    case first =>
      cases m
      · go_wp2
        go_meet
        exact ⟨⟨_, rfl, hs, hide (bodyL_no s HM.out.symm)⟩, rfl⟩
      · have h0 := minusB_size s HM.out.symm
        go_wp2
        go_meet
        exact ⟨⟨_, rfl, extract_size s hs, hide (bodyL_yes s HM.out.symm)⟩, rfl⟩
    case rest =>
      obtain ⟨⟨b, rfl, hb, HB⟩, rfl⟩ := hcut
      go_wp2
      go_loop [2, 3, 4, 5] (fun r d p i => r = .bool false ∧ ∃ (k n : Nat) (q : Bool), k ≤ b.size ∧ n ≤ k ∧ i = .int .i64 k ∧ d = .int .i64 n ∧ p = .bool q ∧ Hid (scan ((bs b).drop k) n q = plainS s)) (fun _ _ _ i => b.size - (intOf i).toNat)
      case atStart => exact ⟨rfl, 0, 0, false, Nat.zero_le _, Nat.zero_le _, rfl, rfl, rfl, hide (by rw [List.drop_zero, HB.out]; rfl)⟩
      case round =>
        obtain ⟨rfl, k, n, q, hk, hn, rfl, rfl, rfl, HS⟩ := hrel
        by_cases hlt : k < b.size
        · have HS' : Hid (scan (b[k] :: (bs b).drop (k + 1)) n q = plainS s) := hide (by rw [← bs_drop b k hlt]; exact HS.out)
          clear HS
          by_cases hd : dg b[k] = true
          · have h1 : 48 ≤ (b[k].toNat : Int) := by simp [dg] at hd; omega
            have h2 : (b[k].toNat : Int) ≤ 57 := by simp [dg] at hd; omega
            go_wp2
            go_round
            case rel => exact ⟨rfl, k + 1, n + 1, q, by omega, by omega, by go_num, by go_num, rfl, hide (scan_dig hd HS'.out)⟩
            case measure => simp [intOf]; omega
          · have hd' : dg b[k] = false := by simpa using hd
            clear hd
            by_cases hp : pt b[k] = true ∧ q = false ∧ 0 < n
            · obtain ⟨h1, h2, h3⟩ := hp
              have h4 : ((b[k].toNat : Int) == 46) = true := h1
              have h5 : (b[k].toNat : Int) < 48 := by simp at h4; omega
              have h6 : (0 : Int) < (n : Int) := by omega
              have HN := hide (scan_pt hd' h1 h2 h3 HS'.out)
              subst h2
              clear HS' h1 hd' h3
              go_wp2
              go_round
              case rel => exact ⟨rfl, k + 1, 0, true, by omega, by omega, by go_num, by go_num, rfl, HN⟩
              case measure => simp [intOf]; omega
            · have HN := hide (scan_no hd' hp HS'.out)
              clear HS'
              have HC : Hid (dg b[k] = false ∧ ¬ (pt b[k] = true ∧ q = false ∧ 0 < n)) := hide ⟨hd', hp⟩
              clear hd' hp
              go_wp2
              all_goals first
                | (go_ret; exact ⟨ret_bool HN.out, rfl⟩)
                | exact (not_dig HC ‹_› ‹_›).elim
                | exact (not_pt HC ‹_› ‹_› ‹_›).elim
        · go_wp2
          go_ret
          exact ⟨ret_bool (by have := HS.out; rw [bs_drop_end b k (by omega)] at this; simpa [scan] using this), rfl⟩
end Go.Proofs.Qxb6602739a
