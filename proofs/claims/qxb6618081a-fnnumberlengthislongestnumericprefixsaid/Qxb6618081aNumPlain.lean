/-
  The plain law of numberLength: no Go in sight.
-/
namespace Go.Proofs.Qxb6618081a.Num

/-- a digit -/
def isD (c : UInt8) : Bool := decide (48 ≤ c.toNat ∧ c.toNat ≤ 57)
/-- how many digits the list opens with -/
def digs : List UInt8 → Nat
  | [] => 0
  | c :: r => if isD c then digs r + 1 else 0
/-- the length of the exponent that the list opens with, 0 if there is none -/
def expo : List UInt8 → Nat
  | c :: x :: r =>
    if c = 101 ∨ c = 69 then
      if x = 43 ∨ x = 45 then (if digs r = 0 then 0 else digs r + 2)
      else (if digs (x :: r) = 0 then 0 else digs (x :: r) + 1)
    else 0
  | _ => 0
/-- what stands behind the digits of the whole part -/
def frac : List UInt8 → Nat
  | [] => 0
  | c :: r => if c = 46 then digs r + 1 + expo (r.drop (digs r)) else expo (c :: r)
def numLen (l : List UInt8) : Nat := digs l + frac (l.drop (digs l))

theorem digs_le (l : List UInt8) : digs l ≤ l.length := by
  induction l with
  | nil => simp [digs]
  | cons c r ih => simp only [digs]; split <;> simp <;> omega

theorem expo_le (l : List UInt8) : expo l ≤ l.length := by
  unfold expo
  split
  · rename_i c x r
    have h1 := digs_le r
    have h2 := digs_le (x :: r)
    simp only [List.length_cons] at h2 ⊢
    repeat' split
    all_goals omega
  · omega

theorem frac_le (l : List UInt8) : frac l ≤ l.length := by
  unfold frac
  split
  · simp
  · rename_i c r
    split
    · have h1 := digs_le r
      have h2 := expo_le (r.drop (digs r))
      simp only [List.length_drop, List.length_cons] at h2 ⊢
      omega
    · exact expo_le _

theorem numLen_le (l : List UInt8) : numLen l ≤ l.length := by
  have h1 := digs_le l
  have h2 := frac_le (l.drop (digs l))
  simp only [List.length_drop] at h2
  unfold numLen
  omega

theorem digs_le_numLen (l : List UInt8) : digs l ≤ numLen l := by unfold numLen; omega

/-! ### cutting -/
theorem digs_take (l : List UInt8) (i : Nat) (h : digs l ≤ i) : digs (l.take i) = digs l := by
  induction l generalizing i with
  | nil => simp [digs]
  | cons c r ih =>
    cases i with
    | zero => simp [digs] at h ⊢; exact h
    | succ i =>
      simp only [digs, List.take_succ_cons] at h ⊢
      split
      · rename_i hc
        rw [if_pos hc] at h
        rw [ih i (by omega)]
      · rfl

theorem expo_take (l : List UInt8) (i : Nat) (h : expo l ≤ i) : expo (l.take i) = expo l := by
  match l, i with
  | [], i => simp [expo]
  | [c], 0 => simp [expo]
  | [c], i + 1 => simp [expo]
  | c :: x :: r, 0 => simp only [List.take_zero]; have : expo (c :: x :: r) = 0 := by omega
                      rw [this]; rfl
  | c :: x :: r, 1 =>
    have : expo (c :: x :: r) = 0 := by
      by_cases h0 : expo (c :: x :: r) = 0
      · exact h0
      · exfalso
        simp only [expo] at h h0
        repeat' split at h
        all_goals simp_all
    rw [this]; rfl
  | c :: x :: r, i + 2 =>
    simp only [List.take_succ_cons, expo] at h ⊢
    split
    · rename_i hc
      rw [if_pos hc] at h
      split
      · rename_i hx
        rw [if_pos hx] at h
        by_cases h0 : digs r = 0
        · rw [digs_take r i (by omega)]
        · rw [if_neg h0] at h
          rw [digs_take r i (by omega)]
      · rename_i hx
        rw [if_neg hx] at h
        have e : x :: r.take i = (x :: r).take (i + 1) := by simp
        by_cases h0 : digs (x :: r) = 0
        · rw [e, digs_take _ _ (by omega)]
        · rw [if_neg h0] at h
          rw [e, digs_take _ _ (by omega)]
    · rfl

theorem frac_take (l : List UInt8) (i : Nat) (h : frac l ≤ i) : frac (l.take i) = frac l := by
  match l, i with
  | [], i => simp [frac]
  | c :: r, 0 => have : frac (c :: r) = 0 := by omega
                 rw [this]; rfl
  | c :: r, i + 1 =>
    simp only [List.take_succ_cons, frac] at h ⊢
    split
    · rename_i hc
      rw [if_pos hc] at h
      rw [digs_take r i (by omega)]
      rw [List.drop_take, expo_take _ _ (by omega)]
    · rename_i hc
      rw [if_neg hc] at h
      have := expo_take (c :: r) (i + 1) h
      simpa using this

/-- cutting at or behind the number leaves the number -/
theorem numLen_take (l : List UInt8) (i : Nat) (h : numLen l ≤ i) : numLen (l.take i) = numLen l := by
  unfold numLen at *
  have h1 : digs l ≤ i := by omega
  rw [digs_take l i h1, List.drop_take, frac_take _ _ (by omega)]

/-! ### the automaton -/
def step (st : Nat) (c : UInt8) : Nat :=
  if st = 0 then (if isD c then 0 else if c = 46 then 1 else if c = 101 ∨ c = 69 then 2 else 5)
  else if st = 1 then (if isD c then 1 else if c = 101 ∨ c = 69 then 2 else 5)
  else if st = 2 then (if isD c then 4 else if c = 43 ∨ c = 45 then 3 else 5)
  else if st = 3 then (if isD c then 4 else 5)
  else if st = 4 then (if isD c then 4 else 5)
  else 5
def acc (st : Nat) : Bool := decide (st = 0 ∨ st = 1 ∨ st = 4)
/-- the automaton from state 'st' at place 'i', the last accepting place being 'last': the last accepting place at the end -/
def scan (st i last : Nat) : List UInt8 → Nat
  | [] => last
  | c :: r => if st = 5 then last else scan (step st c) (i + 1) (if acc (step st c) then i + 1 else last) r

theorem scan5 (i last : Nat) (l : List UInt8) : scan 5 i last l = last := by
  cases l <;> simp [scan]

theorem scan4 (i : Nat) (l : List UInt8) : scan 4 i i l = i + digs l := by
  induction l generalizing i with
  | nil => simp [scan, digs]
  | cons c r ih =>
    simp only [scan, digs]
    by_cases hc : isD c = true
    · simp [step, hc, acc, ih]; omega
    · simp [step, hc, acc, scan5]

theorem digs_pos_of (c : UInt8) (r : List UInt8) : digs (c :: r) = 0 ↔ isD c = false := by
  simp only [digs]; split <;> simp_all

theorem scan3 (i last : Nat) (l : List UInt8) : scan 3 i last l = if digs l = 0 then last else i + digs l := by
  cases l with
  | nil => simp [scan, digs]
  | cons c r =>
    simp only [scan, digs]
    by_cases hc : isD c = true
    · simp [step, hc, acc, scan4]; omega
    · simp [step, hc, acc, scan5]

theorem eE_notD {c : UInt8} (h : c = 101 ∨ c = 69) : isD c = false := by
  rcases h with h | h <;> subst h <;> decide
theorem pm_notD {c : UInt8} (h : c = 43 ∨ c = 45) : isD c = false := by
  rcases h with h | h <;> subst h <;> decide
theorem dot_notD : isD 46 = false := by decide

/-- state 2 stands behind an e at place i - 1 -/
theorem scan2 (i last : Nat) (c : UInt8) (r : List UInt8) (hc : c = 101 ∨ c = 69) :
    scan 2 (i + 1) last r = if expo (c :: r) = 0 then last else i + expo (c :: r) := by
  cases r with
  | nil => simp [scan, expo]
  | cons x r =>
    simp only [scan, expo, if_pos hc]
    by_cases hx : isD x = true
    · have hn : ¬ (x = 43 ∨ x = 45) := by intro h; rw [pm_notD h] at hx; cases hx
      rw [if_neg hn]
      have hd : digs (x :: r) = digs r + 1 := by simp [digs, hx]
      simp [step, hx, acc, scan4, hd]; omega
    · have hx' : isD x = false := by simpa using hx
      have hd : digs (x :: r) = 0 := (digs_pos_of x r).2 hx'
      by_cases hp : x = 43 ∨ x = 45
      · rw [if_pos hp]
        have hs : step 2 x = 3 := by simp [step, hx', hp]
        rw [hs]
        simp [acc, scan3]
        split <;> simp_all <;> omega
      · rw [if_neg hp]
        have hs : step 2 x = 5 := by
          simp only [not_or] at hp
          simp [step, hx', hp]
        rw [hs]
        simp [acc, scan5, hd]

theorem expo_ne (c : UInt8) (r : List UInt8) (hc : ¬ (c = 101 ∨ c = 69)) : expo (c :: r) = 0 := by
  cases r with
  | nil => rfl
  | cons x r => simp only [expo, if_neg hc]

theorem scan1 (i : Nat) (l : List UInt8) : scan 1 i i l = i + digs l + expo (l.drop (digs l)) := by
  induction l generalizing i with
  | nil => simp [scan, digs, expo]
  | cons c r ih =>
    simp only [scan, digs]
    by_cases hc : isD c = true
    · simp [step, hc, acc, ih]; omega
    · have hc' : isD c = false := by simpa using hc
      by_cases he : c = 101 ∨ c = 69
      · have hs : step 1 c = 2 := by simp [step, hc', he]
        rw [hs]
        simp only [acc, hc']
        have := scan2 i i c r he
        simp [this]
      · have hs : step 1 c = 5 := by
          simp only [not_or] at he
          simp [step, hc', he]
        rw [hs]
        simp [acc, scan5, hc', expo_ne c r he]

theorem scan0 (i : Nat) (l : List UInt8) : scan 0 i i l = i + numLen l := by
  induction l generalizing i with
  | nil => simp [scan, numLen, digs, frac]
  | cons c r ih =>
    simp only [scan]
    by_cases hc : isD c = true
    · have hn : numLen (c :: r) = numLen r + 1 := by simp [numLen, digs, hc]; omega
      simp [step, hc, acc, ih, hn]; omega
    · have hc' : isD c = false := by simpa using hc
      have hn : numLen (c :: r) = frac (c :: r) := by simp [numLen, digs, hc']
      rw [hn]
      simp only [frac]
      by_cases hd : c = 46
      · subst hd
        have hs : step 0 46 = 1 := by decide
        rw [hs]
        simp [acc, scan1]
        omega
      · rw [if_neg hd]
        by_cases he : c = 101 ∨ c = 69
        · have hs : step 0 c = 2 := by simp [step, hc', hd, he]
          rw [hs]
          simp only [acc]
          have := scan2 i i c r he
          simp [this]
        · have hs : step 0 c = 5 := by
            have he' := he
            simp only [not_or] at he'
            simp [step, hc', hd, he']
          rw [hs]
          simp [acc, scan5, expo_ne c r he]

/-- the longest numeric prefix -/
theorem scan_numLen (l : List UInt8) : scan 0 0 0 l = numLen l := by
  rw [scan0]; omega

end Go.Proofs.Qxb6618081a.Num
