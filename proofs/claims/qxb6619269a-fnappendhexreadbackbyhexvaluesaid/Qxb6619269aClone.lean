/-
  cloneBytes at whatever slice of bytes; what the two laws on appendHex begin with.
-/
import Derived.Test.Qxb6619269aWalk
namespace Go.Proofs.Qxb6619269a.Hx
open Go.ChangeShapes Go.WideShapes Go.ChangeAt Go.RowKit
set_option linter.unusedVariables false

theorem clone_any (ao : Option Addr) (len cap : Nat) (cs : List Value) (w : World) (hl : cs.length = len) (hlen : len ≤ 1048576) (hnil : ao = none → len = 0)
    (hsrc : ∀ x, ao = some x → ∀ j v, cs[j]? = some v → w.cell? (x.add j) = some v) (h1 : ∀ v ∈ cs, v.oneCell' = true) :
    Calls Try.prog 10 #[.slice ao len cap] w fun e w' => ∃ a1, e = .returned (.slice a1 len len) ∧ w'.ownsRow w.heap.size 5 1 (.slice a1 len len) len cs ∧ Below w.heap.size w w' := by
  cases ao with
  | none =>
    obtain rfl := hnil rfl
    obtain rfl : cs = [] := List.eq_nil_of_length_eq_zero hl
    refine (clone_nil w 0 cap).mono ?_
    rintro e w' ⟨rfl, rfl⟩
    exact ⟨none, rfl, World.ownsRow_nil _ _ _ _, Below.refl _ _⟩
  | some x =>
    refine (clone_some x len cap cs w hl hlen (hsrc x rfl) h1).mono ?_
    rintro e w' ⟨rfl, ho, hb⟩
    exact ⟨_, rfl, ho, hb⟩

/-- an owned row's address and cells -/
theorem owns_src {w : World} {base len : Nat} {ao : Option Addr} {cs : List Value} (h : w.ownsRow base 5 1 (.slice ao len len) len cs) :
    (ao = none → len = 0) ∧ (∀ x, ao = some x → ∀ j v, cs[j]? = some v → w.cell? (x.add j) = some v) := by
  rcases h.2 with ⟨h', rfl⟩ | ⟨g, cap, cur, h', _⟩
  · simp only [Value.slice.injEq] at h'
    obtain ⟨rfl, _⟩ := h'
    exact ⟨fun _ => rfl, fun x hx => by cases hx⟩
  · simp only [Value.slice.injEq] at h'
    obtain ⟨rfl, _, rfl⟩ := h'
    refine ⟨fun h => (by cases h), fun x hx => ?_⟩
    simp only [Option.some.injEq] at hx
    subst hx
    exact h.cells rfl
theorem owns_cells {w : World} {base len : Nat} {ao : Option Addr} {cs : List Value} (h : w.ownsRow base 5 1 (.slice ao len len) len cs) (hp : 0 < len) :
    ∃ g, ao = some ⟨g, 0, none⟩ ∧ ∀ i, i < len → w.cell? ⟨g, i, none⟩ = cs[i]? := by
  rcases h.2 with ⟨h', rfl⟩ | ⟨g, cap, cur, h', _⟩
  · omega
  · simp only [Value.slice.injEq] at h'
    obtain ⟨rfl, _, rfl⟩ := h'
    exact ⟨g, rfl, fun i hi => h.cellAt i (by omega)⟩
theorem owns_pos {w : World} {base n : Nat} {v : Value} {cs : List Value} (h : w.ownsRow base 5 1 v n cs) (hp : 0 < n) :
    ∃ g cap, v = .slice (some ⟨g, 0, none⟩) n cap ∧ base ≤ g ∧ g < w.heap.size ∧ n ≤ cap ∧ ∀ i, i < n → w.cell? ⟨g, i, none⟩ = cs[i]? := by
  rcases h.2 with ⟨h', rfl⟩ | ⟨g, cap, cur, rfl, hb, hg, hc, _⟩
  · omega
  · exact ⟨g, cap, rfl, hb, (Array.getElem?_eq_some_iff.1 hg).1, hc, fun i hi => h.cellAt i (by omega)⟩

theorem owns_later {w1 w2 : World} {B : Nat} {v : Value} {n : Nat} {cs : List Value} (h : w1.ownsRow B 5 1 v n cs) (hb : Below w1.heap.size w1 w2) : w2.ownsRow B 5 1 v n cs := by
  refine h.kept (row := none) ⟨hb.os, hb.tape, hb.output, hb.size, fun k hk _ => hb.block k hk⟩ ?_
  cases hv : v.ownBlock <;> simp
theorem want_kept {w w1 w2 w3 : World} {a1 a2 : Option Addr} {len : Nat} {cs : List Value} (h1 : w1.ownsRow w.heap.size 5 1 (.slice a1 len len) len cs) (hb1 : Below w.heap.size w w1)
    (h2 : w2.ownsRow w1.heap.size 5 1 (.slice a2 len len) len cs) (hg : w2.grownBy w3 (Value.slice a1 len len).ownBlock) : w3.ownsRow w1.heap.size 5 1 (.slice a2 len len) len cs := by
  refine h2.kept hg ?_
  cases hv : (Value.slice a2 len len).ownBlock with
  | none => exact .inl rfl
  | some k =>
    right
    intro e
    have hk := h2.lt k hv
    have hk1 := h1.lt k e.symm
    omega
theorem below3 {w w1 w2 w3 : World} {a1 : Option Addr} {len : Nat} {cs : List Value} (h1 : w1.ownsRow w.heap.size 5 1 (.slice a1 len len) len cs) (hb1 : Below w.heap.size w w1) (hb2 : Below w1.heap.size w1 w2)
    (hg : w2.grownBy w3 (Value.slice a1 len len).ownBlock) : Below w.heap.size w w3 := by
  have hs1 := hb1.size
  have hs2 := hb2.size
  exact (hb1.trans (hb2.mono hs1)).grown hg (by omega) (fun k hk => (h1.lt k hk).1)
theorem and15 {x : Nat} (hx : x < 18446744073709551616) : bits .and .u64 (x : Int) 15 = ((x % 16 : Nat) : Int) := by
  have := u64_and_nat x 15 hx (by omega)
  rw [nat_mask4] at this
  exact this
theorem digit_cell {cs : List Value} {n L len i : Nat} (hcl : cs.length = len) (hi : i < L) :
    (cs ++ cellsOf (lowD n L))[len + i]? = some (.int .u8 ((hexc (n / 16 ^ (L - 1 - i) % 16) : Nat) : Int)) := by
  rw [List.getElem?_append_right (by omega), show len + i - cs.length = i from by omega]
  unfold cellsOf
  rw [List.getElem?_map, lowD_get n L i hi]
  rfl
theorem top_digit {n L : Nat} (h : IsLen n L) (h2 : 1 < L) : ((hexc (n / 16 ^ (L - 1) % 16) : Nat) : Int) ≠ 48 := by
  obtain ⟨_, _, h3, h4⟩ := h
  have h5 : 16 ^ (L - 1) ≤ n := by omega
  have h6 : n / 16 ^ (L - 1) < 16 := by
    rw [Nat.div_lt_iff_lt_mul (Nat.pow_pos (by omega)), Nat.mul_comm, ← Nat.pow_succ, show (L - 1).succ = L from by omega]
    exact h3
  have h7 : 1 ≤ n / 16 ^ (L - 1) := (Nat.le_div_iff_mul_le (Nat.pow_pos (by omega))).2 (by omega)
  rw [Nat.mod_eq_of_lt h6]
  unfold hexc
  split <;> omega
theorem or_digit {x d : Nat} (hx : x * 16 < 18446744073709551616) (hd : d < 16) : bits .or .u64 ((x : Int) * 16) (d : Int) = ((x * 16 + d : Nat) : Int) := by
  have h := u64_or_nat (x * 16) d hx (by omega)
  have e : x * 16 ||| d = x * 16 + d := by
    have := Nat.shiftLeft_add_eq_or_of_lt (i := 4) (b := d) (by omega) x
    rw [Nat.shiftLeft_eq] at this
    exact this.symm
  rw [e] at h
  exact_mod_cast h
theorem next_val (n L i : Nat) (hi : i < L) : n / 16 ^ (L - i) * 16 + n / 16 ^ (L - 1 - i) % 16 = n / 16 ^ (L - (i + 1)) := by
  obtain ⟨q, hq⟩ : ∃ q, q = L - 1 - i := ⟨_, rfl⟩
  rw [show L - i = q + 1 from by omega, show L - (i + 1) = q from by omega, ← hq, Nat.pow_succ, ← Nat.div_div_eq_div_mul]
  omega
theorem val_small (n L i : Nat) (hi : i < L) (hn : n < 18446744073709551616) : n / 16 ^ (L - i) * 16 < 18446744073709551616 := by
  have h := next_val n L i hi
  have := Nat.div_le_self n (16 ^ (L - (i + 1)))
  omega
theorem hexc_ranges (d : Nat) (hd : d < 16) : (48 ≤ ((hexc d : Nat) : Int) ∧ ((hexc d : Nat) : Int) ≤ 57) ∨ (97 ≤ ((hexc d : Nat) : Int) ∧ ((hexc d : Nat) : Int) ≤ 102) := by
  unfold hexc
  split <;> omega
theorem zz_digit (d : Nat) (hd : d < 16) (w : World) :
    Calls Try.prog 23 #[.int .u8 ((hexc d : Nat) : Int)] w fun e w' => e = .returned (.int .i64 (d : Int)) ∧ w = w' := by
  have hb := hexc_bd d hd
  refine (zzhexValue_any _ (by omega) (by omega) w).mono ?_
  rintro e w' ⟨rfl, rfl⟩
  rw [hexV_hexc d hd]
  exact ⟨rfl, rfl⟩
end Go.Proofs.Qxb6619269a.Hx
