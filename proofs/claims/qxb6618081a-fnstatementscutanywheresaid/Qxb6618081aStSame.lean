/-
  samePiece at two slices of one block that begin at one place; plain laws for FnStatementsCutAnywhere.
-/
import Derived.Test.Qxb6618081aStCopy
import Derived.Deep.RegionHeld3
namespace Go.Proofs.Qxb6618081a.St
open Go.ChangeShapes Go.WideShapes Go.ChangeAt Go.RowKit
set_option linter.unusedVariables false

/-- m tokens of block g from cell o on -/
def ToksOff (w : World) (g o m : Nat) : Prop := ∀ j, j < m → ∃ x : Tok, w.cell? ⟨g, o + j * 4, none⟩ = some (.int .u8 x.k) ∧ w.cell? ⟨g, o + j * 4 + 1, none⟩ = some (.string x.t) ∧ w.cell? ⟨g, o + j * 4 + 2, none⟩ = some (.int .i64 x.l) ∧ w.cell? ⟨g, o + j * 4 + 3, none⟩ = some (.bool x.b)
theorem ToksOff.later {w w' : World} {g o m B : Nat} (h : ToksOff w g o m) (hb : Below B w w') (hg : g < B) : ToksOff w' g o m := by
  intro j hj
  obtain ⟨x, h0, h1, h2, h3⟩ := h j hj
  exact ⟨x, (hb.cell hg).trans h0, (hb.cell hg).trans h1, (hb.cell hg).trans h2, (hb.cell hg).trans h3⟩
theorem toks_off {w : World} {g n s m : Nat} {ts : Nat → Tok} (h : ∀ i, i < n → TokAt w g i (ts i)) (hs : s + m ≤ n) : ToksOff w g (s * 4) m := by
  intro j hj
  obtain ⟨h0, h1, h2, h3⟩ := h (s + j) (by omega)
  have ej : (s + j) * 4 = s * 4 + j * 4 := by omega
  rw [ej] at h0 h1 h2 h3
  exact ⟨_, h0, h1, h2, h3⟩

set_option maxHeartbeats 1000000 in
theorem same_off (g o m c c' : Nat) (w : World) (hm : m ≤ 1048576) (hg : g < w.heap.size) (ht : ToksOff w g o m) :
    Calls Try.prog 19 #[.slice (some ⟨g, o, none⟩) m c, .slice (some ⟨g, o, none⟩) m c'] w fun e w' => e = .returned (.bool true) ∧ Below w.heap.size w w' := by
  go_enter Try.func19, Try.ntmps19
  go_wp2_with fail
  go_loopw [5] (fun t wr => ∃ j : Nat, j ≤ m ∧ t = .int .i64 j ∧ Below w.heap.size w wr) (fun t _ => m - (intOf t).toNat)
  case atStart => exact ⟨0, by omega, rfl, Below.refl _ _⟩
  case round =>
    obtain ⟨j, hj, rfl, hbel⟩ := hrel
    by_cases hlt : j < m
    · have hsz := hbel.size
      obtain ⟨x, q0, q1, q2, q3⟩ := ht.later hbel hg j hlt
      have hkl : (j : Int) < (m : Int) := by omega
      clear ht
      go_wp2_with fail
      refine (fields_any x.k x.t x.l x.b _).mono ?_
      rintro e w1 ⟨rfl, hb1⟩
      have hgr : g < wr.heap.size := by omega
      have p0 : w1.cell? ⟨g, o + j * 4, none⟩ = some (.int .u8 x.k) := (hb1.cell hgr).trans q0
      have p1 : w1.cell? ⟨g, o + j * 4 + 1, none⟩ = some (.string x.t) := (hb1.cell hgr).trans q1
      have p2 : w1.cell? ⟨g, o + j * 4 + 2, none⟩ = some (.int .i64 x.l) := (hb1.cell hgr).trans q2
      have p3 : w1.cell? ⟨g, o + j * 4 + 3, none⟩ = some (.bool x.b) := (hb1.cell hgr).trans q3
      go_wp2_with fail
      refine (fields_any x.k x.t x.l x.b _).mono ?_
      rintro e w2 ⟨rfl, hb2⟩
      have hs1 := hb1.size
      go_wp2_with fail
      go_roundw
      case rel => exact ⟨j + 1, by omega, by go_num, (hbel.trans (hb1.mono hsz)).trans (hb2.mono (by omega))⟩
      case measure => simp [intOf]; omega
    · go_wp2_with fail
      go_ret
      exact ⟨rfl, hbel⟩

/-! ### plain: the pieces of a cut list lie within it -/
theorem pc_in (S : Nat → Bool) (m j : Nat) (p : Nat × Nat) (h : p ∈ pc S none j m) : j ≤ p.1 ∧ p.1 < p.2 ∧ p.2 ≤ j + m := by
  have key : ∀ (k m j : Nat), m ≤ k → ∀ p ∈ pc S none j m, j ≤ p.1 ∧ p.1 < p.2 ∧ p.2 ≤ j + m := by
    intro k
    induction k with
    | zero =>
      intro m j hm p hp
      obtain rfl : m = 0 := by omega
      simp [pc, emit] at hp
    | succ k ih =>
      intro m j hm p hp
      cases hq : pc S none j m with
      | nil => rw [hq] at hp; cases hp
      | cons a r =>
        obtain ⟨s, e⟩ := a
        obtain ⟨h1, h2, h3, _, _, _, h7⟩ := pc_cons hq
        rw [hq] at hp
        rcases List.mem_cons.1 hp with rfl | hp
        · exact ⟨h1, h2, h3⟩
        · rw [h7] at hp
          have := ih (j + m - e) e (by omega) p hp
          omega
  exact key m m j (Nat.le_refl _) p h

/-- is a run open ahead of j? -/
def oj (S : Nat → Bool) (j : Nat) : Option Nat := if j = 0 then none else if S (j - 1) then none else some 0
theorem oj_next (S : Nat → Bool) (j : Nat) : oj S (j + 1) = if S j then none else some 0 := by
  unfold oj
  rw [if_neg (by omega), Nat.add_sub_cancel]
theorem pc_len_some (S : Nat → Bool) (m j s s' : Nat) : (pc S (some s) j m).length = (pc S (some s') j m).length := by
  obtain ⟨e, B, _, _, _, _, _, h⟩ := pc_some S m j
  rw [h s, h s']; rfl
/-- one round of the count of runs -/
theorem runs_step {S : Nat → Bool} {c n j W : Nat} (hj : j < n) (h : c + (pc S (oj S j) j (n - j)).length = W + (oj S j).isSome.toNat) :
    (c + (if S j then 0 else if (oj S j).isSome then 0 else 1)) + (pc S (oj S (j + 1)) (j + 1) (n - (j + 1))).length = W + (oj S (j + 1)).isSome.toNat := by
  rw [show n - j = (n - (j + 1)) + 1 from by omega] at h
  rw [oj_next]
  cases hs : S j with
  | true =>
    simp only [pc, hs, if_true, List.length_append] at h ⊢
    cases ho : oj S j with
    | none => rw [ho] at h; simp [emit] at h ⊢; omega
    | some t => rw [ho] at h; simp [emit] at h ⊢; omega
  | false =>
    simp only [pc, hs, Bool.false_eq_true, if_false] at h ⊢
    rw [pc_len_some S (n - (j + 1)) (j + 1) 0 ((oj S j).getD j)]
    cases ho : oj S j with
    | none => rw [ho] at h; simp at h ⊢; omega
    | some t => rw [ho] at h; simp at h ⊢; omega
theorem runs_end {S : Nat → Bool} {c n W : Nat} (h : c + (pc S (oj S n) n (n - n)).length = W + (oj S n).isSome.toNat) : c = W := by
  rw [Nat.sub_self] at h
  cases ho : oj S n with
  | none => rw [ho] at h; simp [pc, emit] at h; omega
  | some t => rw [ho] at h; simp [pc, emit] at h; omega

/-- the cut, glued -/
theorem cut_glued {S : Nat → Bool} {i n : Nat} (h0 : 0 < i) (h1 : i < n) (h2 : S (i - 1) = false) (h3 : S i = false) :
    ∃ A s e B, pc S none 0 i = A ++ [(s, i)] ∧ pc S none i (n - i) = (i, e) :: B ∧ pc S none 0 n = A ++ (s, e) :: B := by
  rcases pc_cut S i (n - i) none 0 with ⟨h, _⟩ | ⟨s, hc, _⟩
  · have ho : openAt S none 0 i = true := by unfold openAt; rw [if_neg (by omega), Nat.zero_add, h2]; rfl
    obtain ⟨A, s, e, B, a1, a2, a3, _⟩ := h ⟨ho, by omega, by rw [Nat.zero_add]; exact h3⟩
    rw [Nat.zero_add] at a1 a2
    rw [show i + (n - i) = n from by omega] at a3
    exact ⟨A, s, e, B, a1, a2, a3⟩
  · cases hc
/-- the cut, not glued -/
theorem cut_free {S : Nat → Bool} {i n : Nat} (hi : i ≤ n) (h : ¬ (0 < i ∧ i < n ∧ S (i - 1) = false ∧ S i = false)) :
    pc S none 0 n = pc S none 0 i ++ pc S none i (n - i) := by
  rcases pc_cut S i (n - i) none 0 with ⟨_, h'⟩ | ⟨s, hc, _⟩
  · have := h' (by
      rintro ⟨a, b, c⟩
      rw [Nat.zero_add] at c
      unfold openAt at a
      by_cases h0 : i = 0
      · rw [if_pos h0] at a; cases a
      · rw [if_neg h0, Nat.zero_add] at a
        exact h ⟨by omega, by omega, by simpa using a, c⟩)
    rw [Nat.zero_add, show i + (n - i) = n from by omega] at this
    exact this
  · cases hc

theorem ToksOff.drew {w : World} {g o m : Nat} (h : ToksOff w g o m) : ToksOff w.drew g o m := h
theorem piece_view {w : World} {g n : Nat} {ts : Nat → Tok} {p : Nat × Nat} (h : ∀ i, i < n → TokAt w g i (ts i)) (h1 : p.1 < p.2) (h2 : p.2 ≤ n) :
    ∃ o mm cc, pieceV g n p = .slice (some ⟨g, o, none⟩) mm cc ∧ mm ≤ n ∧ ToksOff w g o mm :=
  ⟨p.1 * 4, p.2 - p.1, n - p.1, rfl, by omega, toks_off h (by omega)⟩
/-- the slice of pieces, its block's number told -/
theorem owns_at {w : World} {B g n : Nat} {v : Value} {P : List (Nat × Nat)} (h : w.ownsRow B 31 1 v P.length (P.map (pieceV g n))) :
    ∃ ao cp gs, v = .slice ao P.length cp ∧ ∀ k, k < P.length → ao = some ⟨gs, 0, none⟩ ∧ w.cell? ⟨gs, k, none⟩ = some (pieceV g n (P.getD k (0, 0))) := by
  rcases h.2 with ⟨rfl, h0⟩ | ⟨g', cap, cur, rfl, _⟩
  · exact ⟨none, 0, 0, by rw [h0], fun i hi => (by omega)⟩
  · refine ⟨_, cap, g', rfl, fun i hi => ⟨rfl, ?_⟩⟩
    rw [h.cellAt i (by omega), List.getElem?_map, List.getElem?_eq_getElem hi]
    simp [List.getElem?_eq_getElem hi]
theorem getD_mem {P : List (Nat × Nat)} {k : Nat} (hk : k < P.length) : P.getD k (0, 0) ∈ P := by
  have e : P.getD k (0, 0) = P[k] := by simp [List.getElem?_eq_getElem hk]
  rw [e]; exact List.getElem_mem hk
theorem getD_left {A B : List (Nat × Nat)} {k : Nat} (hk : k < A.length) : (A ++ B).getD k (0, 0) = A.getD k (0, 0) := by
  simp [List.getElem?_append_left hk]
theorem getD_right {A B : List (Nat × Nat)} {k : Nat} : (A ++ B).getD (A.length + k) (0, 0) = B.getD k (0, 0) := by
  simp [List.getElem?_append_right]
theorem below_undrew1 {w w' : World} (h : Below w.drew.heap.size w.drew w') : Below w.heap.size w w' := ⟨h.os, h.tape, h.output, h.size, h.block⟩
theorem piece_val (g n s e : Nat) : pieceV g n (s, e) = .slice (some ⟨g, s * 4, none⟩) (e - s) (n - s) := rfl
/-- the pieces at the places of a glued cut -/
theorem glued_places {A B : List (Nat × Nat)} {s e i : Nat} {P F R : List (Nat × Nat)} (a1 : F = A ++ [(s, i)]) (a2 : R = (i, e) :: B) (a3 : P = A ++ (s, e) :: B) :
    (1 ≤ F.length ∧ 1 ≤ R.length ∧ P.length + 1 = F.length + R.length) ∧ (∀ k, k + 1 < F.length → P.getD k (0, 0) = F.getD k (0, 0)) ∧ P.getD (F.length - 1) (0, 0) = (s, e) ∧ F.getD (F.length - 1) (0, 0) = (s, i) ∧ R.getD 0 (0, 0) = (i, e) ∧
    (∀ k, 1 ≤ k → k < R.length → P.getD (F.length - 1 + k) (0, 0) = R.getD k (0, 0)) := by
  subst a1 a2 a3
  have hl : (A ++ [(s, i)]).length - 1 = A.length + 0 := by simp
  refine ⟨⟨by simp, by simp, by simp; omega⟩, ?_, ?_, ?_, rfl, ?_⟩
  · intro k hk
    simp at hk
    rw [getD_left hk, getD_left hk]
  · rw [hl, getD_right]; rfl
  · rw [hl, getD_right]; rfl
  · intro k h1 h2
    have hl2 : (A ++ [(s, i)]).length - 1 + k = A.length + k := by simp
    rw [hl2, getD_right]
    obtain ⟨m, rfl⟩ : ∃ m, k = m + 1 := ⟨k - 1, by omega⟩
    rfl
end Go.Proofs.Qxb6618081a.St
