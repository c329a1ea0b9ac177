/- The plain mathematics of seat b6602994a, the decimal scanner: no Go in sight. -/
namespace Go.Proofs.Qxb6602994a.Plain

def dg (c : UInt8) : Bool := decide (48 ≤ (c.toNat : Int)) && decide ((c.toNat : Int) ≤ 57)
def isc (n : Int) (c : UInt8) : Bool := (c.toNat : Int) == n
def isE (c : UInt8) : Bool := isc 101 c || isc 69 c
def isS (c : UInt8) : Bool := isc 43 c || isc 45 c

/-- The digits that follow a digit. -/
def cL (sep : Bool) : List UInt8 → Nat
  | [] => 0
  | [c] => if dg c then 1 else 0
  | c :: d :: t => if dg c then 1 + cL sep (d :: t) else if sep && isc 95 c && dg d then 2 + cL sep t else 0

/-- A run of digits. -/
def digL (sep : Bool) : List UInt8 → Nat
  | [] => 0
  | c :: t => if dg c then 1 + cL sep t else 0

/-- Does an underscore stand at the head, a digit behind it? -/
def under : List UInt8 → Bool
  | c :: d :: _ => isc 95 c && dg d
  | _ => false

def sgn : List UInt8 → Nat
  | c :: _ => if isS c then 1 else 0
  | [] => 0

/-- What an exponent at the head takes. -/
def expo (sep : Bool) : List UInt8 → Nat
  | c :: r => if isE c then (if 0 < digL sep (r.drop (sgn r)) then 1 + sgn r + digL sep (r.drop (sgn r)) else 0) else 0
  | [] => 0

/-- What the scanner takes. -/
def scanL (sep : Bool) (l : List UInt8) : Nat :=
  match l.drop (digL sep l) with
  | [] => digL sep l
  | c :: r =>
    if isc 46 c then (if digL sep l = 0 ∧ digL sep r = 0 then 0 else digL sep l + 1 + digL sep r + expo sep (r.drop (digL sep r)))
    else if digL sep l = 0 then 0 else digL sep l + expo sep (c :: r)

/-- The automaton's step. -/
def step (st : Int) (c : UInt8) (sep : Bool) : Int :=
  if st = 0 then (if dg c then 1 else if isc 46 c then 4 else -1)
  else if st = 1 then (if dg c then 1 else if sep && isc 95 c then 2 else if isc 46 c then 3 else if isE c then 7 else -1)
  else if st = 2 then (if dg c then 1 else -1)
  else if st = 3 then (if dg c then 5 else if isE c then 7 else -1)
  else if st = 4 then (if dg c then 5 else -1)
  else if st = 5 then (if dg c then 5 else if sep && isc 95 c then 6 else if isE c then 7 else -1)
  else if st = 6 then (if dg c then 5 else -1)
  else if st = 7 then (if dg c then 9 else if isS c then 8 else -1)
  else if st = 8 then (if dg c then 9 else -1)
  else if st = 9 then (if dg c then 9 else if sep && isc 95 c then 10 else -1)
  else if st = 10 then (if dg c then 9 else -1)
  else -1

def acc (st : Int) : Bool := st == 1 || st == 3 || st == 5 || st == 9

/-- The automaton's run: the last accepting end. -/
def run (sep : Bool) : Int → Nat → Nat → List UInt8 → Nat
  | _, last, _, [] => last
  | st, last, p, c :: t => if step st c sep < 0 then last else run sep (step st c sep) (if acc (step st c sep) then p + 1 else last) (p + 1) t

/-! ### The scanner's run of digits, step by step -/

theorem cL_eq (sep : Bool) (l : List UInt8) : cL sep l = if sep && under l then 1 + digL sep (l.drop 1) else digL sep l := by
  match l with
  | [] => simp [cL, under, digL]
  | [c] => simp [cL, under, digL]
  | c :: d :: t =>
    by_cases hc : dg c = true
    · have h95 : isc 95 c = false := by
        simp [dg] at hc; simp [isc]; omega
      simp [cL, digL, under, hc, h95]
    · by_cases hu : (sep && isc 95 c && dg d) = true
      · simp at hu
        obtain ⟨⟨h1, h2⟩, h3⟩ := hu
        simp [cL, digL, under, hc, h1, h2, h3]; omega
      · simp [cL, digL, under, hc] at hu ⊢
        by_cases h1 : sep = true <;> by_cases h2 : isc 95 c = true <;> simp_all

theorem digL_cons (sep : Bool) (c : UInt8) (t : List UInt8) :
    digL sep (c :: t) = if dg c then (if sep && under t then 2 + digL sep (t.drop 1) else 1 + digL sep t) else 0 := by
  show (if dg c then 1 + cL sep t else 0) = _
  rw [cL_eq]
  by_cases hc : dg c = true
  · simp only [hc, if_true]
    split <;> omega
  · simp [hc]

/-- Behind a whole run: no digit, and no underscore with a digit behind it. -/
def stuck (sep : Bool) (r : List UInt8) : Prop := ∀ c t, r = c :: t → dg c = false ∧ (sep && under r) = false

theorem cL_stuck (sep : Bool) : ∀ (n : Nat) (l : List UInt8), l.length ≤ n → stuck sep (l.drop (cL sep l)) := by
  intro n
  induction n with
  | zero =>
    intro l h
    have : l = [] := List.eq_nil_of_length_eq_zero (by omega)
    subst this
    intro c t e; simp at e
  | succ n ih =>
    intro l h
    match l with
    | [] => intro c t e; simp at e
    | [c] =>
      by_cases hc : dg c = true
      · simp [cL, hc]; intro c t e; simp at e
      · have hc' : dg c = false := by simpa using hc
        simp [cL, hc']
        intro c' t e
        simp at e
        obtain ⟨rfl, rfl⟩ := e
        exact ⟨hc', by simp [under]⟩
    | c :: d :: t =>
      by_cases hc : dg c = true
      · have := ih (d :: t) (by simp at h ⊢; omega)
        simp only [cL, hc, if_true]
        rw [Nat.add_comm, List.drop_succ_cons]
        exact this
      · have hc' : dg c = false := by simpa using hc
        by_cases hu : (sep && isc 95 c && dg d) = true
        · have := ih t (by simp at h; omega)
          simp only [cL, hc', hu, if_true, Bool.false_eq_true, if_false]
          rw [Nat.add_comm, List.drop_succ_cons, List.drop_succ_cons]
          exact this
        · have hu' : (sep && isc 95 c && dg d) = false := by simpa using hu
          simp only [cL, hc', hu', Bool.false_eq_true, if_false, List.drop_zero]
          intro c' t' e
          simp at e
          obtain ⟨rfl, rfl⟩ := e
          exact ⟨hc', by simp only [under]; rw [← Bool.and_assoc]; exact hu'⟩

theorem digL_stuck (sep : Bool) (l : List UInt8) : stuck sep (l.drop (digL sep l)) ∨ digL sep l = 0 := by
  match l with
  | [] => right; rfl
  | c :: t =>
    by_cases hc : dg c = true
    · left
      simp only [digL, hc, if_true]
      rw [Nat.add_comm, List.drop_succ_cons]
      exact cL_stuck sep _ t (Nat.le_refl _)
    · right; simp [digL, hc]

theorem cL_le (sep : Bool) : ∀ (n : Nat) (l : List UInt8), l.length ≤ n → cL sep l ≤ l.length := by
  intro n
  induction n with
  | zero =>
    intro l h
    have : l = [] := List.eq_nil_of_length_eq_zero (by omega)
    subst this; simp [cL]
  | succ n ih =>
    intro l h
    match l with
    | [] => simp [cL]
    | [c] => simp only [cL, List.length_cons, List.length_nil]; split <;> omega
    | c :: d :: t =>
      have h1 := ih (d :: t) (by simp at h ⊢; omega)
      have h2 := ih t (by simp at h; omega)
      simp only [cL, List.length_cons] at h1 ⊢
      split
      · omega
      · split <;> omega

theorem digL_le (sep : Bool) (l : List UInt8) : digL sep l ≤ l.length := by
  match l with
  | [] => simp [digL]
  | c :: t =>
    have := cL_le sep _ t (Nat.le_refl _)
    simp only [digL, List.length_cons]; split <;> omega

/-! ### The automaton within a run of digits -/

/-- A digits' state: it stays on a digit, goes to 'u' on an underscore where these are let, and comes back from there on a digit alone. -/
structure Digits (sep : Bool) (st u : Int) : Prop where
  pos : ¬ st < 0
  upos : ¬ u < 0
  ac : acc st = true
  uac : acc u = false
  dig : ∀ c, dg c = true → step st c sep = st
  und : ∀ c, sep = true → isc 95 c = true → step st c sep = u
  back : ∀ c, dg c = true → step u c sep = st
  dead : ∀ c, dg c = false → step u c sep = -1

theorem not_dg_95 {c : UInt8} (h : isc 95 c = true) : dg c = false := by
  simp [isc] at h; simp [dg]; omega
theorem not_dg_46 {c : UInt8} (h : isc 46 c = true) : dg c = false := by
  simp [isc] at h; simp [dg]; omega
theorem not_dg_E {c : UInt8} (h : isE c = true) : dg c = false := by
  simp [isE, isc] at h; simp [dg]; omega
theorem not_dg_S {c : UInt8} (h : isS c = true) : dg c = false := by
  simp [isS, isc] at h; simp [dg]; omega
theorem not_46_95 {c : UInt8} (h : isc 95 c = true) : isc 46 c = false := by
  simp [isc] at h ⊢; omega
theorem not_E_95 {c : UInt8} (h : isc 95 c = true) : isE c = false := by
  simp [isE, isc] at h ⊢; omega
theorem not_E_46 {c : UInt8} (h : isc 46 c = true) : isE c = false := by
  simp [isE, isc] at h ⊢; omega

theorem digits1 (sep : Bool) : Digits sep 1 2 :=
  ⟨by decide, by decide, by decide, by decide, fun c h => by simp [step, h], fun c h1 h2 => by simp [step, h1, h2, not_dg_95 h2], fun c h => by simp [step, h], fun c h => by simp [step, h]⟩
theorem digits5 (sep : Bool) : Digits sep 5 6 :=
  ⟨by decide, by decide, by decide, by decide, fun c h => by simp [step, h], fun c h1 h2 => by simp [step, h1, h2, not_dg_95 h2], fun c h => by simp [step, h], fun c h => by simp [step, h]⟩
theorem digits9 (sep : Bool) : Digits sep 9 10 :=
  ⟨by decide, by decide, by decide, by decide, fun c h => by simp [step, h], fun c h1 h2 => by simp [step, h1, h2, not_dg_95 h2], fun c h => by simp [step, h], fun c h => by simp [step, h]⟩

theorem run_digits {sep : Bool} {st u : Int} (D : Digits sep st u) : ∀ (n : Nat) (l : List UInt8) (p : Nat), l.length ≤ n →
    run sep st p p l = run sep st (p + cL sep l) (p + cL sep l) (l.drop (cL sep l)) := by
  intro n
  induction n with
  | zero =>
    intro l p h
    have : l = [] := List.eq_nil_of_length_eq_zero (by omega)
    subst this; simp [cL]
  | succ n ih =>
    intro l p h
    match l with
    | [] => simp [cL]
    | [c] =>
      by_cases hc : dg c = true
      · simp [cL, hc, run, D.dig c hc, D.pos, D.ac]
      · simp [cL, hc]
    | c :: d :: t =>
      by_cases hc : dg c = true
      · have h1 := ih (d :: t) (p + 1) (by simp at h ⊢; omega)
        have e : cL sep (c :: d :: t) = cL sep (d :: t) + 1 := by simp [cL, hc]; omega
        rw [e, List.drop_succ_cons, show p + (cL sep (d :: t) + 1) = p + 1 + cL sep (d :: t) from by omega, ← h1]
        show (if step st c sep < 0 then _ else _) = _
        rw [D.dig c hc, if_neg D.pos, D.ac]; rfl
      · have hc' : dg c = false := by simpa using hc
        by_cases hu : (sep && isc 95 c && dg d) = true
        · have hu' := hu
          simp at hu'
          obtain ⟨⟨h1, h2⟩, h3⟩ := hu'
          have h4 := ih t (p + 2) (by simp at h; omega)
          have e : cL sep (c :: d :: t) = cL sep t + 2 := by simp [cL, hc', h1, h2, h3]; omega
          rw [e, List.drop_succ_cons, List.drop_succ_cons, show p + (cL sep t + 2) = p + 2 + cL sep t from by omega, ← h4]
          show (if step st c sep < 0 then _ else _) = _
          rw [D.und c h1 h2, if_neg D.upos, D.uac]
          show (if step u d sep < 0 then _ else _) = _
          rw [D.back d h3, if_neg D.pos, D.ac]; rfl
        · have hu' : (sep && isc 95 c && dg d) = false := by simpa using hu
          have e : cL sep (c :: d :: t) = 0 := by simp only [cL, hc', hu', Bool.false_eq_true, if_false]
          rw [e]; rfl

/-- Behind a run, an underscore is the end. -/
theorem run_under {sep : Bool} {st u : Int} (D : Digits sep st u) (q : Nat) (c : UInt8) (t : List UInt8) (h1 : sep = true) (h2 : isc 95 c = true)
    (hs : stuck sep (c :: t)) : run sep st q q (c :: t) = q := by
  show (if step st c sep < 0 then _ else _) = _
  rw [D.und c h1 h2, if_neg D.upos, D.uac]
  match t with
  | [] => rfl
  | d :: t' =>
    have := (hs c (d :: t') rfl).2
    simp [under, h1, h2] at this
    show (if step u d sep < 0 then _ else _) = _
    rw [D.dead d this]; simp

theorem run9 (sep : Bool) (q : Nat) (r : List UInt8) (hs : stuck sep r) : run sep 9 q q r = q := by
  match r with
  | [] => rfl
  | c :: t =>
    by_cases hu : sep = true ∧ isc 95 c = true
    · exact run_under (digits9 sep) q c t hu.1 hu.2 hs
    · have hd := (hs c t rfl).1
      have hu' : (sep && isc 95 c) = false := by
        rw [Bool.eq_false_iff]; intro h; exact hu (by simpa using h)
      show (if step 9 c sep < 0 then _ else _) = _
      have : step 9 c sep = -1 := by simp [step, hd, hu']
      rw [this]; simp

/-- Into a run of digits from a state that takes none but digits (beside what 'h' tells). -/
theorem run_into {sep : Bool} {st u : Int} (D : Digits sep st u) (s0 : Int) (q p : Nat) (d : UInt8) (t : List UInt8) (hd : dg d = true) (h : step s0 d sep = st) :
    run sep s0 q p (d :: t) = run sep st (p + digL sep (d :: t)) (p + digL sep (d :: t)) ((d :: t).drop (digL sep (d :: t))) := by
  have e : digL sep (d :: t) = cL sep t + 1 := by simp [digL, hd]; omega
  rw [e, List.drop_succ_cons, show p + (cL sep t + 1) = p + 1 + cL sep t from by omega, ← run_digits D _ t (p + 1) (Nat.le_refl _)]
  show (if step s0 d sep < 0 then _ else _) = _
  rw [h, if_neg D.pos, D.ac]; rfl

theorem stuck_digL {sep : Bool} {d : UInt8} {t : List UInt8} (hd : dg d = true) : stuck sep ((d :: t).drop (digL sep (d :: t))) := by
  rcases digL_stuck sep (d :: t) with h | h
  · exact h
  · simp [digL, hd] at h

theorem digL_pos {sep : Bool} {d : UInt8} {t : List UInt8} (hd : dg d = true) : 0 < digL sep (d :: t) := by simp [digL, hd]; omega
theorem digL_zero {sep : Bool} {d : UInt8} {t : List UInt8} (hd : dg d = false) : digL sep (d :: t) = 0 := by simp [digL, hd]

theorem run7 (sep : Bool) (q : Nat) (e : UInt8) (he : isE e = true) (r : List UInt8) : run sep 7 q (q + 1) r = q + expo sep (e :: r) := by
  match r with
  | [] => simp [run, expo, he, sgn, digL]
  | d :: t =>
    by_cases hd : dg d = true
    · have hs : isS d = false := by
        rw [Bool.eq_false_iff]; intro h; rw [not_dg_S h] at hd; cases hd
      rw [run_into (digits9 sep) 7 q (q + 1) d t hd (by simp [step, hd]), run9 sep _ _ (stuck_digL hd)]
      have hp := digL_pos (sep := sep) (t := t) hd
      simp [expo, he, sgn, hs, hp]; omega
    · have hd' : dg d = false := by simpa using hd
      by_cases hs : isS d = true
      · have h8 : step 7 d sep = 8 := by simp [step, hd', hs]
        show (if step 7 d sep < 0 then _ else _) = _
        rw [h8, if_neg (by decide), show acc 8 = false from rfl]
        simp only [Bool.false_eq_true, if_false]
        match t with
        | [] => simp [run, expo, he, sgn, hs, digL]
        | d2 :: t2 =>
          by_cases hd2 : dg d2 = true
          · rw [run_into (digits9 sep) 8 q (q + 1 + 1) d2 t2 hd2 (by simp [step, hd2]), run9 sep _ _ (stuck_digL hd2)]
            have hp := digL_pos (sep := sep) (t := t2) hd2
            simp [expo, he, sgn, hs, hp]; omega
          · have hd2' : dg d2 = false := by simpa using hd2
            have hm : step 8 d2 sep = -1 := by simp [step, hd2']
            show (if step 8 d2 sep < 0 then _ else _) = _
            rw [hm]
            simp [expo, he, sgn, hs, digL_zero hd2']
      · have hs' : isS d = false := by simpa using hs
        have hm : step 7 d sep = -1 := by simp [step, hd', hs']
        show (if step 7 d sep < 0 then _ else _) = _
        rw [hm]
        simp [expo, he, sgn, hs', digL_zero hd']

theorem run5 (sep : Bool) (q : Nat) (r : List UInt8) (hs : stuck sep r) : run sep 5 q q r = q + expo sep r := by
  match r with
  | [] => simp [run, expo]
  | c :: t =>
    by_cases hu : sep = true ∧ isc 95 c = true
    · rw [run_under (digits5 sep) q c t hu.1 hu.2 hs]; simp [expo, not_E_95 hu.2]
    · have hd := (hs c t rfl).1
      have hu' : (sep && isc 95 c) = false := by
        rw [Bool.eq_false_iff]; intro h; exact hu (by simpa using h)
      by_cases he : isE c = true
      · have : step 5 c sep = 7 := by simp [step, hd, hu', he]
        show (if step 5 c sep < 0 then _ else _) = _
        rw [this, if_neg (by decide), show acc 7 = false from rfl]
        exact run7 sep q c he t
      · have : step 5 c sep = -1 := by simp [step, hd, hu', he]
        show (if step 5 c sep < 0 then _ else _) = _
        rw [this]; simp [expo, he]

theorem run3 (sep : Bool) (q : Nat) (r : List UInt8) : run sep 3 q q r = q + digL sep r + expo sep (r.drop (digL sep r)) := by
  match r with
  | [] => simp [run, expo, digL]
  | d :: t =>
    by_cases hd : dg d = true
    · rw [run_into (digits5 sep) 3 q q d t hd (by simp [step, hd]), run5 sep _ _ (stuck_digL hd)]
    · have hd' : dg d = false := by simpa using hd
      rw [digL_zero hd']
      by_cases he : isE d = true
      · have : step 3 d sep = 7 := by simp [step, hd', he]
        show (if step 3 d sep < 0 then _ else _) = _
        rw [this, if_neg (by decide), show acc 7 = false from rfl]
        exact run7 sep q d he t
      · have : step 3 d sep = -1 := by simp [step, hd', he]
        show (if step 3 d sep < 0 then _ else _) = _
        rw [this]; simp [expo, he]

def behind (sep : Bool) (q : Nat) (r : List UInt8) : Nat := match r with
  | [] => q
  | c :: t => if isc 46 c then q + 1 + digL sep t + expo sep (t.drop (digL sep t)) else q + expo sep (c :: t)

theorem run1 (sep : Bool) (q : Nat) (r : List UInt8) (hs : stuck sep r) : run sep 1 q q r = behind sep q r := by
  unfold behind
  match r with
  | [] => rfl
  | c :: t =>
    by_cases hu : sep = true ∧ isc 95 c = true
    · rw [run_under (digits1 sep) q c t hu.1 hu.2 hs]; simp [expo, not_E_95 hu.2, not_46_95 hu.2]
    · have hd := (hs c t rfl).1
      have hu' : (sep && isc 95 c) = false := by
        rw [Bool.eq_false_iff]; intro h; exact hu (by simpa using h)
      by_cases hp : isc 46 c = true
      · have : step 1 c sep = 3 := by simp [step, hd, hu', hp]
        show (if step 1 c sep < 0 then _ else _) = _
        rw [this, if_neg (by decide), show acc 3 = true from rfl]
        simp only [if_true, hp]
        exact run3 sep (q + 1) t
      · have hp' : isc 46 c = false := by simpa using hp
        by_cases he : isE c = true
        · have : step 1 c sep = 7 := by simp [step, hd, hu', hp', he]
          show (if step 1 c sep < 0 then _ else _) = _
          rw [this, if_neg (by decide), show acc 7 = false from rfl]
          simp only [hp', Bool.false_eq_true, if_false]
          exact run7 sep q c he t
        · have : step 1 c sep = -1 := by simp [step, hd, hu', hp', he]
          show (if step 1 c sep < 0 then _ else _) = _
          rw [this]; simp [expo, he, hp']

/-- THE LAW: the automaton's last accepting end is what the scanner takes. -/
theorem run_scan (sep : Bool) (p : Nat) (l : List UInt8) : run sep 0 p p l = p + scanL sep l := by
  match l with
  | [] => simp [run, scanL, digL]
  | d :: t =>
    by_cases hd : dg d = true
    · rw [run_into (digits1 sep) 0 p p d t hd (by simp [step, hd]), run1 sep _ _ (stuck_digL hd)]
      have hp := digL_pos (sep := sep) (t := t) hd
      unfold scanL behind
      cases h : (d :: t).drop (digL sep (d :: t)) with
      | nil => rfl
      | cons c r =>
        simp only
        by_cases h46 : isc 46 c = true
        · simp only [h46, if_true]
          rw [if_neg (by omega)]; omega
        · have h46' : isc 46 c = false := by simpa using h46
          simp only [h46', Bool.false_eq_true, if_false]
          rw [if_neg (by omega)]; omega
    · have hd' : dg d = false := by simpa using hd
      unfold scanL
      rw [digL_zero hd']
      simp only [List.drop_zero]
      by_cases h46 : isc 46 d = true
      · have h4 : step 0 d sep = 4 := by simp [step, hd', h46]
        show (if step 0 d sep < 0 then _ else _) = _
        rw [h4, if_neg (by decide), show acc 4 = false from rfl]
        simp only [Bool.false_eq_true, if_false, h46, if_true, true_and]
        match t with
        | [] => simp [run, digL]
        | d2 :: t2 =>
          by_cases hd2 : dg d2 = true
          · rw [run_into (digits5 sep) 4 p (p + 1) d2 t2 hd2 (by simp [step, hd2]), run5 sep _ _ (stuck_digL hd2)]
            have hp := digL_pos (sep := sep) (t := t2) hd2
            rw [if_neg (by omega)]; omega
          · have hd2' : dg d2 = false := by simpa using hd2
            have hm : step 4 d2 sep = -1 := by simp [step, hd2']
            show (if step 4 d2 sep < 0 then _ else _) = _
            rw [hm, digL_zero hd2']; simp
      · have h46' : isc 46 d = false := by simpa using h46
        have hm : step 0 d sep = -1 := by simp [step, hd', h46']
        show (if step 0 d sep < 0 then _ else _) = _
        rw [hm]; simp [h46']

/-! ### The token rescans whole -/

theorem run_or (sep : Bool) : ∀ (l : List UInt8) (st : Int) (last p : Nat), run sep st last p l = last ∨ p + 1 ≤ run sep st last p l := by
  intro l
  induction l with
  | nil => intro st last p; left; rfl
  | cons c t ih =>
    intro st last p
    by_cases hs : step st c sep < 0
    · left; simp [run, hs]
    · simp only [run, hs, if_false]
      by_cases ha : acc (step st c sep) = true
      · rcases ih (step st c sep) (if acc (step st c sep) then p + 1 else last) (p + 1) with h | h
        · right; rw [h]; simp [ha]
        · right; omega
      · rcases ih (step st c sep) (if acc (step st c sep) then p + 1 else last) (p + 1) with h | h
        · left; rw [h]; simp [ha]
        · right; omega

theorem run_le (sep : Bool) : ∀ (l : List UInt8) (st : Int) (last p : Nat), last ≤ p → run sep st last p l ≤ p + l.length := by
  intro l
  induction l with
  | nil => intro st last p h; simpa [run] using h
  | cons c t ih =>
    intro st last p h
    by_cases hs : step st c sep < 0
    · simp [run, hs]; omega
    · simp only [run, hs, if_false, List.length_cons]
      have := ih (step st c sep) (if acc (step st c sep) then p + 1 else last) (p + 1) (by split <;> omega)
      omega

theorem run_take (sep : Bool) : ∀ (l : List UInt8) (st : Int) (last p : Nat), last ≤ p →
    run sep st last p (l.take (run sep st last p l - p)) = run sep st last p l := by
  intro l
  induction l with
  | nil => intro st last p _; simp [run]
  | cons c t ih =>
    intro st last p h
    by_cases hs : step st c sep < 0
    · have e : run sep st last p (c :: t) = last := by simp [run, hs]
      rw [e, show last - p = 0 from by omega]; rfl
    · have e : run sep st last p (c :: t) = run sep (step st c sep) (if acc (step st c sep) then p + 1 else last) (p + 1) t := by simp only [run, hs, if_false]
      have hi := ih (step st c sep) (if acc (step st c sep) then p + 1 else last) (p + 1) (by split <;> omega)
      have ho := run_or sep t (step st c sep) (if acc (step st c sep) then p + 1 else last) (p + 1)
      rw [e]
      generalize hR : run sep (step st c sep) (if acc (step st c sep) then p + 1 else last) (p + 1) t = R at hi ho ⊢
      by_cases hp : R ≤ p
      · rw [show R - p = 0 from by omega]
        rcases ho with ho | ho
        · by_cases ha : acc (step st c sep) = true
          · simp [ha] at ho; omega
          · simp [ha] at ho; rw [ho]; rfl
        · omega
      · rw [show R - p = (R - (p + 1)) + 1 from by omega, List.take_succ_cons]
        simp only [run, hs, if_false]
        exact hi

theorem scan_take (sep : Bool) (l : List UInt8) : scanL sep (l.take (scanL sep l)) = scanL sep l := by
  have h := run_take sep l 0 0 0 (Nat.le_refl _)
  rw [run_scan, run_scan] at h
  simpa using h

theorem scan_le (sep : Bool) (l : List UInt8) : scanL sep l ≤ l.length := by
  have h := run_le sep l 0 0 0 (Nat.le_refl _)
  rw [run_scan] at h
  simpa using h

end Go.Proofs.Qxb6602994a.Plain
