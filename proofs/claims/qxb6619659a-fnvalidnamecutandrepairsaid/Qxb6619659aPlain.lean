/-
  The plain law of validName: no Go in sight.
-/
namespace Go.Proofs.Qxb6619659a.Nm

/-- a letter or a digit -/
def alB (c : Int) : Bool := decide ((97 ≤ c ∧ c ≤ 122) ∨ (65 ≤ c ∧ c ≤ 90) ∨ (48 ≤ c ∧ c ≤ 57))
/-- a byte that may stand behind the first -/
def inB (c : Int) : Bool := alB c || c == 95 || c == 46 || c == 45
def okTail : List UInt8 → Bool
  | [] => true
  | c :: r => inB c.toNat && okTail r
def valid : List UInt8 → Bool
  | [] => false
  | c :: r => alB c.toNat && okTail r

theorem okTail_append (a b : List UInt8) : okTail (a ++ b) = (okTail a && okTail b) := by
  induction a with
  | nil => simp [okTail]
  | cons c r ih => simp [okTail, ih, Bool.and_assoc]

theorem valid_zero (r : List UInt8) : valid (48 :: r) = okTail r := by
  have : alB ((48 : UInt8).toNat) = true := by decide
  simp only [valid]
  rw [this]; rfl

/-- the cut: i in 1 .. length -/
theorem valid_cut (l : List UInt8) (i : Nat) (h1 : 1 ≤ i) (h2 : i ≤ l.length) :
    valid l = (valid (l.take i) && okTail (l.drop i)) := by
  match l, i with
  | [], i => simp at h2; omega
  | c :: r, 0 => omega
  | c :: r, i + 1 =>
    simp only [List.take_succ_cons, List.drop_succ_cons, valid]
    rw [Bool.and_assoc, ← okTail_append, List.take_append_drop]

/-- the byte that the repair puts for c -/
def fix (c : UInt8) : UInt8 := if inB c.toNat then c else 48
theorem inB_fix (c : UInt8) : inB (fix c).toNat = true := by
  unfold fix
  split
  · assumption
  · decide
theorem okTail_fix (l : List UInt8) : okTail (l.map fix) = true := by
  induction l with
  | nil => rfl
  | cons c r ih => simp [okTail, ih, inB_fix]

end Go.Proofs.Qxb6619659a.Nm
