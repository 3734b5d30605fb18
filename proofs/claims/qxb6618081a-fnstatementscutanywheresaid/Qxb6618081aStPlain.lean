/-
  The plain law of statements: no Go in sight. 'S j': is the j-th token a separator?
-/
namespace Go.Proofs.Qxb6618081a.St

/-- what an open run gives where it ends at j -/
def emit (o : Option Nat) (j : Nat) : List (Nat × Nat) := match o with
  | none => []
  | some s => [(s, j)]
/-- the runs of tokens that are no separators in [j, j + m), as (first, behind the last); 'o': the first of a run that is open at j -/
def pc (S : Nat → Bool) : Option Nat → Nat → Nat → List (Nat × Nat)
  | o, j, 0 => emit o j
  | o, j, m + 1 => if S j then emit o j ++ pc S none (j + 1) m else pc S (some (o.getD j)) (j + 1) m

/-- an open run closes somewhere, whatever its first is -/
theorem pc_some (S : Nat → Bool) (m j : Nat) : ∃ e B, j ≤ e ∧ e ≤ j + m ∧ (∀ i, j ≤ i → i < e → S i = false) ∧ (e = j + m ∨ S e = true) ∧ B = pc S none e (j + m - e) ∧ ∀ s, pc S (some s) j m = (s, e) :: B := by
  induction m generalizing j with
  | zero => exact ⟨j, [], by omega, by omega, fun i a b => (by omega), .inl rfl, by simp [pc, emit], fun s => rfl⟩
  | succ m ih =>
    by_cases h : S j = true
    · refine ⟨j, pc S none (j + 1) m, by omega, by omega, fun i a b => (by omega), .inr h, ?_, fun s => ?_⟩
      · rw [show j + (m + 1) - j = m + 1 from by omega]
        simp [pc, h, emit]
      · simp [pc, h, emit]
    · have h' : S j = false := by simpa using h
      obtain ⟨e, B, h1, h2, h3, h4, h5, h6⟩ := ih (j + 1)
      refine ⟨e, B, by omega, by omega, ?_, ?_, ?_, fun s => ?_⟩
      · intro i a b
        by_cases hi : i = j
        · subst hi; exact h'
        · exact h3 i (by omega) b
      · rcases h4 with h4 | h4
        · left; omega
        · exact .inr h4
      · rw [h5]; congr 1; omega
      · simp only [pc, h', Option.getD_some]
        exact h6 s

/-- no run: separators alone -/
theorem pc_nil {S : Nat → Bool} {m j : Nat} (h : pc S none j m = []) : ∀ i, j ≤ i → i < j + m → S i = true := by
  induction m generalizing j with
  | zero => intro i a b; omega
  | succ m ih =>
    by_cases hs : S j = true
    · simp only [pc, hs, emit, if_true, List.nil_append] at h
      intro i a b
      by_cases hi : i = j
      · subst hi; exact hs
      · exact ih h i (by omega) (by omega)
    · have hs' : S j = false := by simpa using hs
      exfalso
      simp only [pc, hs'] at h
      obtain ⟨e, B, _, _, _, _, _, h6⟩ := pc_some S m (j + 1)
      have := h6 ((none : Option Nat).getD j)
      simp only [Bool.false_eq_true, if_false] at h
      rw [this] at h
      cases h

/-- the first run -/
theorem pc_cons {S : Nat → Bool} {m j s e : Nat} {r : List (Nat × Nat)} (h : pc S none j m = (s, e) :: r) :
    j ≤ s ∧ s < e ∧ e ≤ j + m ∧ (∀ i, j ≤ i → i < s → S i = true) ∧ (∀ i, s ≤ i → i < e → S i = false) ∧ (e = j + m ∨ S e = true) ∧ r = pc S none e (j + m - e) := by
  induction m generalizing j with
  | zero => simp [pc, emit] at h
  | succ m ih =>
    by_cases hs : S j = true
    · simp only [pc, hs, emit, if_true, List.nil_append] at h
      obtain ⟨h1, h2, h3, h4, h5, h6, h7⟩ := ih h
      refine ⟨by omega, h2, by omega, ?_, h5, ?_, ?_⟩
      · intro i a b
        by_cases hi : i = j
        · subst hi; exact hs
        · exact h4 i (by omega) b
      · rcases h6 with h6 | h6
        · left; omega
        · exact .inr h6
      · rw [h7]; congr 1; omega
    · have hs' : S j = false := by simpa using hs
      simp only [pc, hs', Bool.false_eq_true, if_false, Option.getD_none] at h
      obtain ⟨e', B, h1, h2, h3, h4, h5, h6⟩ := pc_some S m (j + 1)
      rw [h6 j] at h
      simp only [List.cons.injEq, Prod.mk.injEq] at h
      obtain ⟨⟨rfl, rfl⟩, rfl⟩ := h
      refine ⟨by omega, by omega, by omega, fun i a b => (by omega), ?_, ?_, ?_⟩
      · intro i a b
        by_cases hi : i = j
        · subst hi; exact hs'
        · exact h3 i (by omega) b
      · rcases h4 with h4 | h4
        · left; omega
        · exact .inr h4
      · rw [h5]; congr 1; omega

/-! ### one step of the loop of statements: 'st' is Go's start, j its counter -/
def op (st j : Nat) : Option Nat := if st < j then some st else none
theorem pc_sep {S : Nat → Bool} {st j m : Nat} (h : S j = true) : pc S (op st j) j (m + 1) = (if st < j then [(st, j)] else []) ++ pc S (op (j + 1) (j + 1)) (j + 1) m := by
  simp only [pc, h, if_true, op]
  rw [if_neg (show ¬ j + 1 < j + 1 by omega)]
  split <;> rfl
theorem pc_no {S : Nat → Bool} {st j m : Nat} (h : S j = false) (hst : st ≤ j) : pc S (op st j) j (m + 1) = pc S (op st (j + 1)) (j + 1) m := by
  simp only [pc, h, Bool.false_eq_true, if_false, op]
  rw [if_pos (show st < j + 1 by omega)]
  split
  · rfl
  · rw [Option.getD_none, show j = st from by omega]
theorem pc_end {S : Nat → Bool} {st j : Nat} : pc S (op st j) j 0 = if st < j then [(st, j)] else [] := by
  simp only [pc, op]
  split <;> rfl

/-! ### cutting -/
/-- is a run open at j + m? -/
def openAt (S : Nat → Bool) (o : Option Nat) (j m : Nat) : Bool := if m = 0 then o.isSome else !S (j + m - 1)

theorem openAt_succ {S : Nat → Bool} {o : Option Nat} {j m : Nat} : openAt S o j (m + 1) = openAt S (if S j then none else some (o.getD j)) (j + 1) m := by
  unfold openAt
  rw [if_neg (by omega)]
  by_cases hm : m = 0
  · subst hm
    rw [if_pos rfl]
    have : j + (0 + 1) - 1 = j := by omega
    rw [this]
    cases S j <;> rfl
  · rw [if_neg hm]
    rw [show j + (m + 1) - 1 = j + 1 + m - 1 from by omega]

theorem pc_cut (S : Nat → Bool) (m1 m2 : Nat) (o : Option Nat) (j : Nat) :
    (openAt S o j m1 = true ∧ 0 < m2 ∧ S (j + m1) = false → ∃ A s e B, pc S o j m1 = A ++ [(s, j + m1)] ∧ pc S none (j + m1) m2 = (j + m1, e) :: B ∧ pc S o j (m1 + m2) = A ++ (s, e) :: B ∧ s ≤ j + m1) ∧
    (¬ (openAt S o j m1 = true ∧ 0 < m2 ∧ S (j + m1) = false) → pc S o j (m1 + m2) = pc S o j m1 ++ pc S none (j + m1) m2) ∨ (∃ s, o = some s ∧ j < s) := by
  induction m1 generalizing o j with
  | zero =>
    cases o with
    | none =>
      left
      refine ⟨?_, ?_⟩
      · rintro ⟨h, _⟩
        simp [openAt] at h
      · intro _
        simp [pc, emit]
    | some s =>
      by_cases hsj : j < s
      · exact .inr ⟨s, rfl, hsj⟩
      left
      refine ⟨?_, ?_⟩
      · rintro ⟨_, h2, h3⟩
        obtain ⟨m, rfl⟩ : ∃ m, m2 = m + 1 := ⟨m2 - 1, by omega⟩
        simp only [Nat.add_zero] at h3 ⊢
        obtain ⟨e, B, _, _, _, _, _, h6⟩ := pc_some S m (j + 1)
        refine ⟨[], s, e, B, rfl, ?_, ?_, by omega⟩
        · simp only [pc, h3, Bool.false_eq_true, if_false, Option.getD_none]
          exact h6 j
        · rw [show 0 + (m + 1) = m + 1 from by omega]
          simp only [pc, h3, Bool.false_eq_true, if_false, Option.getD_some, List.nil_append]
          exact h6 s
      · intro h
        simp only [Nat.add_zero, Nat.zero_add]
        cases m2 with
        | zero => simp [pc, emit]
        | succ m =>
          have hs : S j = true := by
            cases hs : S j with
            | true => rfl
            | false => exact absurd ⟨by simp [openAt], by omega, by simpa using hs⟩ h
          simp [pc, hs, emit]
  | succ m1 ih =>
    by_cases hout : ∃ s, o = some s ∧ j < s
    · exact .inr hout
    left
    have e1 : m1 + 1 + m2 = (m1 + m2) + 1 := by omega
    have e2 : j + (m1 + 1) = j + 1 + m1 := by omega
    by_cases hs : S j = true
    · have hi := ih (none : Option Nat) (j + 1)
      rcases hi with ⟨hi1, hi2⟩ | ⟨s, hc, _⟩
      · have ho : openAt S o j (m1 + 1) = openAt S none (j + 1) m1 := by rw [openAt_succ, if_pos hs]
        rw [ho, e2, e1]
        simp only [pc, hs, if_true]
        refine ⟨?_, ?_⟩
        · intro h
          obtain ⟨A, s, e, B, a1, a2, a3, a4⟩ := hi1 h
          exact ⟨emit o j ++ A, s, e, B, by rw [a1, List.append_assoc], a2, by rw [a3, List.append_assoc], a4⟩
        · intro h
          rw [hi2 h, List.append_assoc]
      · cases hc
    · have hs' : S j = false := by simpa using hs
      have hi := ih (some (o.getD j)) (j + 1)
      rcases hi with ⟨hi1, hi2⟩ | ⟨s, hc, hlt⟩
      · have ho : openAt S o j (m1 + 1) = openAt S (some (o.getD j)) (j + 1) m1 := by rw [openAt_succ, if_neg hs]
        rw [ho, e2, e1]
        simp only [pc, hs', Bool.false_eq_true, if_false]
        exact ⟨hi1, hi2⟩
      · exfalso
        simp only [Option.some.injEq] at hc
        cases o with
        | none => simp at hc; omega
        | some t =>
          simp only [Option.getD_some] at hc
          subst hc
          by_cases htj : j < t
          · exact hout ⟨t, rfl, htj⟩
          · omega

/-- how many runs begin in [j, j + m) -/
theorem pc_count (S : Nat → Bool) (o : Option Nat) (j m : Nat) : (pc S o j (m + 1)).length = (if S j then o.isSome.toNat else if o.isSome then 0 else 0) + (pc S (if S j then none else some (o.getD j)) (j + 1) m).length := by
  by_cases hs : S j = true
  · simp only [pc, hs, if_true, List.length_append]
    cases o <;> simp [emit]
  · have hs' : S j = false := by simpa using hs
    simp [pc, hs']
end Go.Proofs.Qxb6618081a.St
