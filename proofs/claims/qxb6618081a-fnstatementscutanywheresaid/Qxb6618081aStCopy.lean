/-
  What the 'copy first' steps of the two laws on statements want.
-/
import Derived.Test.Qxb6618081aStMore
import Derived.Laws.CopyOwn
import Derived.Deep.Cut
import Derived.Deep.CutRange
namespace Go.Proofs.Qxb6618081a.St
open Go.ChangeShapes Go.WideShapes Go.ChangeAt Go.RowKit
set_option linter.unusedVariables false

theorem info5 : (Try.prog.info? 5).map (fun i => (i.zero, i.size, i.bytes)) = some (some (.int .u8 0), 1, 1) := by kernel_rfl
theorem info9 : (Try.prog.info? 9).map (fun i => (i.zero, i.size, i.bytes)) = some (some (.string ByteArray.empty), 1, 16) := by kernel_rfl
theorem info3 : (Try.prog.info? 3).map (fun i => (i.zero, i.size, i.bytes)) = some (some (.int .i64 0), 1, 8) := by kernel_rfl
theorem info4 : (Try.prog.info? 4).map (fun i => (i.zero, i.size, i.bytes)) = some (some (.bool false), 1, 1) := by kernel_rfl

/-- the first len elements, as cells -/
def firstC (len : Nat) (f : Nat → Value) : List Value := (List.range len).map f
theorem firstC_len (len : Nat) (f : Nat → Value) : (firstC len f).length = len := by simp [firstC]
theorem firstC_get {len : Nat} {f : Nat → Value} {j : Nat} {v : Value} (h : (firstC len f)[j]? = some v) : j < len ∧ f j = v := by
  unfold firstC at h
  rw [List.getElem?_map] at h
  rcases Nat.lt_or_ge j len with hj | hj
  · rw [List.getElem?_eq_getElem (by simpa using hj)] at h
    simp at h
    exact ⟨hj, h⟩
  · rw [List.getElem?_eq_none (by simpa using hj)] at h
    cases h
theorem firstC_one {len : Nat} {f : Nat → Value} (h : ∀ i, (f i).oneCell' = true) : ∀ v ∈ firstC len f, v.oneCell' = true := by
  intro v hv
  obtain ⟨i, _, rfl⟩ := List.mem_map.1 hv
  exact h i
theorem src_of {w w' : World} {x : Addr} {len : Nat} {f : Nat → Value} (h : CellsAt w (some x) len f) (hb : Below w.heap.size w w') :
    ∀ j v, (firstC len f)[j]? = some v → w'.cell? (x.add j) = some v := by
  intro j v hj
  obtain ⟨hl, hv⟩ := firstC_get hj
  obtain ⟨y, hy, hc⟩ := h j hl
  simp only [Option.some.injEq] at hy
  subst hy
  rw [hv] at hc
  exact (hb.cell (World.block_lt_of_cell? w _ hc)).trans hc
theorem at_of_heap {w : World} {g len e : Nat} {f : Nat → Value} (hg : w.heap[g]? = some (.cells (firstC len f).toArray e (0, 0))) : CellsAt w (some ⟨g, 0, none⟩) len f := by
  intro i hi
  refine ⟨_, rfl, ?_⟩
  have hadd : (⟨g, 0, none⟩ : Addr).add i = ⟨g, i, none⟩ := by unfold Addr.add; split <;> simp_all
  rw [hadd, cell_of_row w g i _ e (0, 0) hg]
  simp [firstC, hi]
theorem CellsAt.later {w w' : World} {a : Option Addr} {len : Nat} {f : Nat → Value} (h : CellsAt w a len f) (hb : Below w.heap.size w w') : CellsAt w' a len f := by
  intro i hi
  obtain ⟨x, rfl, hc⟩ := h i hi
  exact ⟨x, rfl, (hb.cell (World.block_lt_of_cell? w _ hc)).trans hc⟩
theorem CellsAt.none {w : World} {f : Nat → Value} {a : Option Addr} : CellsAt w a 0 f := fun i hi => (by omega)
theorem row_of_owns {w : World} {base e g n c : Nat} {xs : List Value} (h : w.ownsRow base e 1 (.slice (some ⟨g, 0, none⟩) n c) n xs) :
    ∃ cur : List Value, w.heap[g]? = some (.cells cur.toArray e (0, 0)) ∧ cur.length = c := by
  rcases h.2 with ⟨h', _⟩ | ⟨g', cap', cur, h', _, hg, _, _, hsz, _⟩
  · simp at h'
  · simp only [Value.slice.injEq, Option.some.injEq, Addr.mk.injEq, and_true, true_and] at h'
    obtain ⟨rfl, rfl⟩ := h'
    exact ⟨cur.toList, by simpa using hg, by simpa using hsz⟩
theorem splice_all {cur cs : List Value} (h : cs.length = cur.length) : splice cur 0 cs = cs := by
  simp [splice, h]
theorem heap_of_splice {w : World} {g e len : Nat} {cur : List Value} {f : Nat → Value} (h : Hid (w.heap[g]? = some (.cells (splice cur 0 (firstC len f)).toArray e (0, 0)))) (hl : cur.length = len) : CellsAt w (some ⟨g, 0, none⟩) len f := by
  have h1 := h.out
  rw [splice_all (by rw [firstC_len, hl])] at h1
  exact at_of_heap h1

theorem isSep_q (k : Int) (t : ByteArray) (w : World) :
    Calls Try.prog 16 #[.int .u8 k, .string t] w fun e w' => e = .returned (.bool (sepB k t)) ∧ w' = w :=
  (isSep_any k t w).mono fun _ _ ⟨he, hw⟩ => ⟨he, hw.symm⟩
theorem pc_len (S : Nat → Bool) (o : Option Nat) (j m : Nat) : (pc S o j m).length ≤ m + 1 := by
  induction m generalizing o j with
  | zero => cases o <;> simp [pc, emit]
  | succ m ih =>
    by_cases hs : S j = true
    · simp only [pc, hs, if_true, List.length_append]
      have h := ih none (j + 1)
      cases o <;> simp [emit] <;> omega
    · have hs' : S j = false := by simpa using hs
      simp only [pc, hs', Bool.false_eq_true, if_false]
      have h := ih (some (o.getD j)) (j + 1)
      omega
theorem owns_pieces {w : World} {B g n : Nat} {v : Value} {P : List (Nat × Nat)} (h : w.ownsRow B 31 1 v P.length (P.map (pieceV g n))) :
    ∃ ao cp, v = .slice ao P.length cp ∧ CellsAt w ao P.length fun k => pieceV g n (P.getD k (0, 0)) := by
  rcases h.2 with ⟨rfl, h0⟩ | ⟨g', cap, cur, rfl, _⟩
  · refine ⟨none, 0, by rw [h0], fun i hi => ?_⟩
    omega
  · refine ⟨_, cap, rfl, fun i hi => ⟨_, rfl, ?_⟩⟩
    have hadd : (⟨g', 0, none⟩ : Addr).add i = ⟨g', i, none⟩ := by unfold Addr.add; split <;> simp_all
    rw [hadd, h.cellAt i (by omega), List.getElem?_map, List.getElem?_eq_getElem hi]
    simp [List.getElem?_eq_getElem hi]
/-- the suffix of the pieces at k -/
theorem drop_piece {P : List (Nat × Nat)} {k : Nat} (hk : k < P.length) : P.drop k = ((P.getD k (0, 0)).1, (P.getD k (0, 0)).2) :: P.drop (k + 1) := by
  have e : P.getD k (0, 0) = P[k] := by simp [List.getElem?_eq_getElem hk]
  rw [e]
  exact List.drop_eq_getElem_cons hk
/-- the address, once for all elements -/
theorem fix_at {w : World} {a : Option Addr} {n : Nat} {f : Nat → Value} (h : CellsAt w a n f) : ∃ x, ∀ i, i < n → a = some x ∧ w.cell? (x.add i) = some (f i) := by
  by_cases hn : 0 < n
  · obtain ⟨x, rfl, _⟩ := h 0 hn
    refine ⟨x, fun i hi => ⟨rfl, ?_⟩⟩
    obtain ⟨y, hy, hc⟩ := h i hi
    simp only [Option.some.injEq] at hy
    rw [hy]; exact hc
  · exact ⟨⟨0, 0, none⟩, fun i hi => (by omega)⟩
theorem below_undrew {w w' : World} {n : Nat} (h : Below (w.drewN n).heap.size (w.drewN n) w') : Below w.heap.size w w' := ⟨h.os, h.tape, h.output, h.size, h.block⟩
theorem cell_below {w w' : World} {x : Addr} {v : Value} (h : w.cell? x = some v) (hb : Below w.heap.size w w') : w'.cell? x = some v := (hb.cell (World.block_lt_of_cell? w _ h)).trans h
end Go.Proofs.Qxb6618081a.St
