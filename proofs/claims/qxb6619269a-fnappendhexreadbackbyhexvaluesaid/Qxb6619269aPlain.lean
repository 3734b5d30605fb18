/-
  The plain law of appendHex and hexValue: no Go in sight.
-/
namespace Go.Proofs.Qxb6619269a.Hx

/-- the digit's byte -/
def hexc (d : Nat) : Nat := if d < 10 then 48 + d else 87 + d
/-- the low j digits, the highest of them first -/
def lowD (n : Nat) : Nat → List Nat
  | 0 => []
  | j + 1 => hexc (n / 16 ^ j % 16) :: lowD n j
/-- n has L digits -/
def IsLen (n L : Nat) : Prop := 1 ≤ L ∧ L ≤ 16 ∧ n < 16 ^ L ∧ (L = 1 ∨ 16 ^ (L - 1) ≤ n)

theorem lowD_len (n j : Nat) : (lowD n j).length = j := by
  induction j with
  | zero => rfl
  | succ j ih => simp [lowD, ih]

theorem lowD_get (n j i : Nat) (h : i < j) : (lowD n j)[i]? = some (hexc (n / 16 ^ (j - 1 - i) % 16)) := by
  induction j generalizing i with
  | zero => omega
  | succ j ih =>
    cases i with
    | zero => simp [lowD]
    | succ i =>
      simp only [lowD, List.getElem?_cons_succ]
      rw [ih i (by omega)]
      rw [show j + 1 - 1 - (i + 1) = j - 1 - i from by omega]

theorem IsLen.unique {n a b : Nat} (h : IsLen n a) (k : IsLen n b) : a = b := by
  obtain ⟨a1, a2, a3, a4⟩ := h
  obtain ⟨b1, b2, b3, b4⟩ := k
  rcases Nat.lt_trichotomy a b with hl | he | hl
  · exfalso
    have := Nat.pow_le_pow_right (n := 16) (by omega) (show a ≤ b - 1 by omega)
    omega
  · exact he
  · exfalso
    have := Nat.pow_le_pow_right (n := 16) (by omega) (show b ≤ a - 1 by omega)
    omega

theorem hexc_bd (d : Nat) (h : d < 16) : 48 ≤ hexc d ∧ hexc d ≤ 102 := by unfold hexc; split <;> omega

/-- the value of a digit's byte, -1 if it is none -/
def hexV (c : Int) : Int := if 48 ≤ c ∧ c ≤ 57 then c - 48 else if 97 ≤ c ∧ c ≤ 102 then c - 87 else if 65 ≤ c ∧ c ≤ 70 then c - 55 else -1
theorem hexV_hexc (d : Nat) (h : d < 16) : hexV (hexc d) = d := by
  unfold hexV hexc
  repeat' split
  all_goals omega
theorem shr_eq (n l : Nat) : (n : Int) / 2 ^ (4 * l) = ((n / 16 ^ l : Nat) : Int) := by
  rw [show (2 : Int) ^ (4 * l) = ((16 ^ l : Nat) : Int) from by rw [Int.pow_mul]; norm_cast]
  norm_cast
theorem le_of_div {n l : Nat} (h : n / 16 ^ l ≠ 0) : 16 ^ l ≤ n := by
  rcases Nat.lt_or_ge n (16 ^ l) with h' | h'
  · exact absurd (Nat.div_eq_of_lt h') h
  · exact h'
theorem len_exit {n l L : Nat} (hn : n < 18446744073709551616) (h1 : 1 ≤ l) (h16 : l ≤ 16) (hc : ¬ (l < 16 ∧ n / 16 ^ l ≠ 0)) (hp : l = 1 ∨ 16 ^ (l - 1) ≤ n) (hL : IsLen n L) : l = L := by
  refine IsLen.unique ⟨h1, h16, ?_, hp⟩ hL
  by_cases hl : l < 16
  · have h0 : n / 16 ^ l = 0 := by
      rcases Nat.eq_zero_or_pos (n / 16 ^ l) with h | h
      · exact h
      · exact absurd ⟨hl, by omega⟩ hc
    have := (Nat.div_eq_zero_iff).1 h0
    have hpos : 0 < 16 ^ l := Nat.pow_pos (by omega)
    omega
  · have : l = 16 := by omega
    subst this
    omega
end Go.Proofs.Qxb6619269a.Hx
