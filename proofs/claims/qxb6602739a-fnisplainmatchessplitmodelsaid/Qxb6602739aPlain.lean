/- The plain mathematics of seat b6602739a: no Go in sight. -/
namespace Go.Proofs.Qxb6602739a.Plain

/-- Is the byte a decimal digit? (in the walk's own form: over Int) -/
def dg (c : UInt8) : Bool := decide (48 ≤ (c.toNat : Int)) && decide ((c.toNat : Int) ≤ 57)

/-- Is the byte a point? -/
def pt (c : UInt8) : Bool := (c.toNat : Int) == 46

/-- The one-pass scan. -/
def scan : List UInt8 → Nat → Bool → Bool
  | [], d, _ => decide (0 < d)
  | c :: t, d, p => if dg c then scan t (d + 1) p else if pt c && (!p && decide (0 < d)) then scan t 0 true else false

theorem dg_pt {c : UInt8} (h : pt c = true) : dg c = false := by
  simp [pt] at h; simp [dg]; omega

/-- No point left to take: all must be digits. -/
theorem scan_run (l : List UInt8) : ∀ (d : Nat) (p : Bool), (p = true ∨ ∀ c ∈ l, pt c = false) →
    scan l d p = (l.all dg && decide (0 < d + l.length)) := by
  induction l with
  | nil => intro d p _; simp [scan]
  | cons c t ih =>
    intro d p h
    by_cases hd : dg c = true
    · simp only [scan, hd, if_true]
      rw [ih (d + 1) p (by rcases h with h | h; · exact .inl h
                           · exact .inr fun x hx => h x (by simp [hx]))]
      simp [hd, Nat.add_assoc, Nat.add_comm 1]
    · have hd' : dg c = false := by simpa using hd
      have : (pt c && (!p && decide (0 < d))) = false := by
        rcases h with h | h
        · simp [h]
        · simp [h c (by simp)]
      simp [scan, hd', this]

theorem scan_nodot (l : List UInt8) (h : ∀ c ∈ l, pt c = false) : scan l 0 false = (decide (0 < l.length) && l.all dg) := by
  rw [scan_run l 0 false (.inr h), Bool.and_comm]; simp

theorem scan_dot_gen (a : List UInt8) (x : UInt8) (b : List UInt8) (hx : pt x = true) : ∀ d : Nat, (∀ c ∈ a, pt c = false) →
    scan (a ++ x :: b) d false = (decide (0 < d + a.length) && a.all dg && decide (0 < b.length) && b.all dg) := by
  induction a with
  | nil =>
    intro d _
    have hd := dg_pt hx
    by_cases h0 : 0 < d
    · simp only [List.nil_append, scan, hd, hx]
      simp [h0]
      rw [scan_run b 0 true (.inl rfl)]
      simp [Bool.and_comm]
    · simp [scan, hd, h0]
  | cons c t ih =>
    intro d h
    by_cases hd : dg c = true
    · simp only [List.cons_append, scan, hd, if_true]
      rw [ih (d + 1) (fun y hy => h y (by simp [hy]))]
      simp [hd, Nat.add_assoc, Nat.add_comm 1]
    · have hd' : dg c = false := by simpa using hd
      have hp := h c (by simp)
      simp [scan, hd', hp]

theorem scan_dot (a : List UInt8) (x : UInt8) (b : List UInt8) (hx : pt x = true) (h : ∀ c ∈ a, pt c = false) :
    scan (a ++ x :: b) 0 false = (decide (0 < a.length) && a.all dg && decide (0 < b.length) && b.all dg) := by
  rw [scan_dot_gen a x b hx 0 h]; simp

end Go.Proofs.Qxb6602739a.Plain
