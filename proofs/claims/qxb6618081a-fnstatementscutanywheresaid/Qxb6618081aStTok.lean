/-
  ZZTokens, walked.
-/
import Derived.Test.Qxb6618081aStSmall
import Derived.BigRegion
import Derived.RegionTactic
import Derived.ChangeAlike
namespace Go.Proofs.Qxb6618081a.St
open Go.ChangeShapes Go.WideShapes Go.ChangeAt Go.RowKit
set_option linter.unusedVariables false

/-- one token's fields -/
structure Tok where
  k : Int
  t : ByteArray
  l : Int
  b : Bool
theorem info40 : (Try.prog.info? 40).map (fun i => (i.zero, i.size, i.bytes)) = some (some (.agg #[.int .u8 0, .string ByteArray.empty, .int .i64 0, .bool false]), 4, 40) := by kernel_rfl
/-- the i-th token of the block g -/
def TokAt (w : World) (g i : Nat) (x : Tok) : Prop :=
  w.cell? ⟨g, i * 4, none⟩ = some (.int .u8 x.k) ∧ w.cell? ⟨g, i * 4 + 1, none⟩ = some (.string x.t) ∧ w.cell? ⟨g, i * 4 + 2, none⟩ = some (.int .i64 x.l) ∧ w.cell? ⟨g, i * 4 + 3, none⟩ = some (.bool x.b)

/-- four stores in a row -/
def put4 (w : World) (g o : Nat) (a b c d : Value) : World := (((w.setCell ⟨g, o, none⟩ a).setCell ⟨g, o + 1, none⟩ b).setCell ⟨g, o + 2, none⟩ c).setCell ⟨g, o + 3, none⟩ d
theorem set_other (w : World) (g o i : Nat) (v : Value) (h : o ≠ i) : (w.setCell ⟨g, o, none⟩ v).cell? ⟨g, i, none⟩ = w.cell? ⟨g, i, none⟩ :=
  World.cell?_setCell_other w _ _ _ (by intro e; exact h (congrArg Addr.off e))
theorem set_same (w : World) (g o : Nat) (v u : Value) (h : w.cell? ⟨g, o, none⟩ = some u) : (w.setCell ⟨g, o, none⟩ v).cell? ⟨g, o, none⟩ = some v :=
  World.cell?_setCell_same w _ _ h
theorem put4_out (w : World) (g o : Nat) (a b c d : Value) (i : Nat) (h : i < o ∨ o + 4 ≤ i) : (put4 w g o a b c d).cell? ⟨g, i, none⟩ = w.cell? ⟨g, i, none⟩ :=
  (set_other _ g (o + 3) i d (by omega)).trans ((set_other _ g (o + 2) i c (by omega)).trans ((set_other _ g (o + 1) i b (by omega)).trans (set_other _ g o i a (by omega))))
theorem put4_in (w : World) (g o : Nat) (a b c d : Value) (h : ∀ j, j < 4 → ∃ v, w.cell? ⟨g, o + j, none⟩ = some v) :
    (put4 w g o a b c d).cell? ⟨g, o, none⟩ = some a ∧ (put4 w g o a b c d).cell? ⟨g, o + 1, none⟩ = some b ∧ (put4 w g o a b c d).cell? ⟨g, o + 2, none⟩ = some c ∧ (put4 w g o a b c d).cell? ⟨g, o + 3, none⟩ = some d := by
  obtain ⟨v0, h0⟩ := h 0 (by omega)
  obtain ⟨v1, h1⟩ := h 1 (by omega)
  obtain ⟨v2, h2⟩ := h 2 (by omega)
  obtain ⟨v3, h3⟩ := h 3 (by omega)
  rw [Nat.add_zero] at h0
  refine ⟨?_, ?_, ?_, ?_⟩
  · exact (set_other _ g (o + 3) o d (by omega)).trans ((set_other _ g (o + 2) o c (by omega)).trans ((set_other _ g (o + 1) o b (by omega)).trans (set_same w g o a v0 h0)))
  · exact (set_other _ g (o + 3) (o + 1) d (by omega)).trans ((set_other _ g (o + 2) (o + 1) c (by omega)).trans (set_same _ g (o + 1) b v1 ((set_other w g o (o + 1) a (by omega)).trans h1)))
  · exact (set_other _ g (o + 3) (o + 2) d (by omega)).trans (set_same _ g (o + 2) c v2 ((set_other _ g (o + 1) (o + 2) b (by omega)).trans ((set_other w g o (o + 2) a (by omega)).trans h2)))
  · exact set_same _ g (o + 3) d v3 ((set_other _ g (o + 2) (o + 3) c (by omega)).trans ((set_other _ g (o + 1) (o + 3) b (by omega)).trans ((set_other w g o (o + 3) a (by omega)).trans h3)))
theorem put4_frozen (w : World) (g o : Nat) (a b c d : Value) (x : Addr) : (put4 w g o a b c d).frozen? x = w.frozen? x := by
  unfold put4
  rw [World.frozen?_setCell, World.frozen?_setCell, World.frozen?_setCell, World.frozen?_setCell]
theorem put4_size (w : World) (g o : Nat) (a b c d : Value) : (put4 w g o a b c d).heap.size = w.heap.size := by
  unfold put4; simp
theorem put4_below {B : Nat} {w0 w : World} (h : Below B w0 w) (g o : Nat) (a b c d : Value) (hg : B ≤ g) : Below B w0 (put4 w g o a b c d) := by
  unfold put4
  exact (((h.setCell hg _).setCell hg _).setCell hg _).setCell hg _

/-- what the round leaves -/
theorem tok_round0 {w wr W : World} {g n k : Nat} {ts : Nat → Tok} (hlt : k < n) (ht : ∀ i, i < k → TokAt wr g i (ts i)) (hc : ∀ i, i < n * 4 → ∃ v, wr.cell? ⟨g, i, none⟩ = some v ∧ wr.frozen? ⟨g, i, none⟩ = false) (hb : Below g w wr) (hs : g < wr.heap.size)
    (hW : W = put4 wr g (k * 4) (.int .u8 (ts k).k) (.string (ts k).t) (.int .i64 (ts k).l) (.bool (ts k).b)) :
    (∀ i, i < k + 1 → TokAt W g i (ts i)) ∧ (∀ i, i < n * 4 → ∃ v, W.cell? ⟨g, i, none⟩ = some v ∧ W.frozen? ⟨g, i, none⟩ = false) ∧ Below g w W ∧ g < W.heap.size := by
  have hin := put4_in wr g (k * 4) (.int .u8 (ts k).k) (.string (ts k).t) (.int .i64 (ts k).l) (.bool (ts k).b) (fun j hj => by obtain ⟨v, hv, _⟩ := hc (k * 4 + j) (by omega); exact ⟨v, hv⟩)
  have hout := put4_out wr g (k * 4) (.int .u8 (ts k).k) (.string (ts k).t) (.int .i64 (ts k).l) (.bool (ts k).b)
  have hfr := put4_frozen wr g (k * 4) (.int .u8 (ts k).k) (.string (ts k).t) (.int .i64 (ts k).l) (.bool (ts k).b)
  have hsz := put4_size wr g (k * 4) (.int .u8 (ts k).k) (.string (ts k).t) (.int .i64 (ts k).l) (.bool (ts k).b)
  have hbl := put4_below hb g (k * 4) (.int .u8 (ts k).k) (.string (ts k).t) (.int .i64 (ts k).l) (.bool (ts k).b) (Nat.le_refl _)
  rw [← hW] at hin hout hfr hsz hbl
  clear hW
  refine ⟨?_, ?_, hbl, by omega⟩
  · intro i hi
    by_cases e : i = k
    · subst e; exact hin
    · obtain ⟨t0, t1, t2, t3⟩ := ht i (by omega)
      exact ⟨(hout (i * 4) (by omega)).trans t0, (hout (i * 4 + 1) (by omega)).trans t1, (hout (i * 4 + 2) (by omega)).trans t2, (hout (i * 4 + 3) (by omega)).trans t3⟩
  · intro i hi
    obtain ⟨v, hv, hf⟩ := hc i hi
    by_cases ho : i < k * 4 ∨ k * 4 + 4 ≤ i
    · exact ⟨v, (hout i ho).trans hv, (hfr _).trans hf⟩
    · have : i = k * 4 ∨ i = k * 4 + 1 ∨ i = k * 4 + 2 ∨ i = k * 4 + 3 := by omega
      rcases this with rfl | rfl | rfl | rfl
      · exact ⟨_, hin.1, (hfr _).trans hf⟩
      · exact ⟨_, hin.2.1, (hfr _).trans hf⟩
      · exact ⟨_, hin.2.2.1, (hfr _).trans hf⟩
      · exact ⟨_, hin.2.2.2, (hfr _).trans hf⟩
theorem tok_round {w wr W : World} {n k : Nat} {ts : Nat → Tok} (hlt : k < n) (ht : ∀ i, i < k → TokAt wr w.heap.size i (ts i)) (hc : ∀ i, i < n * 4 → ∃ v, wr.cell? ⟨w.heap.size, i, none⟩ = some v ∧ wr.frozen? ⟨w.heap.size, i, none⟩ = false) (hb : Below w.heap.size w wr) (hs : w.heap.size < wr.heap.size)
    (hW : W = put4 wr w.heap.size (k * 4) (.int .u8 (ts k).k) (.string (ts k).t) (.int .i64 (ts k).l) (.bool (ts k).b)) :
    (∀ i, i < k + 1 → TokAt W.drew w.heap.size i (ts i)) ∧ (∀ i, i < n * 4 → ∃ v, W.drew.cell? ⟨w.heap.size, i, none⟩ = some v ∧ W.drew.frozen? ⟨w.heap.size, i, none⟩ = false) ∧ Below w.heap.size w W.drew ∧ w.heap.size < W.drew.heap.size := by
  obtain ⟨h1, h2, h3, h4⟩ := tok_round0 hlt ht hc hb hs hW
  exact ⟨h1, h2, h3.drew, h4⟩
/-- what 'make' leaves -/
theorem tok_start {w w1 : World} {n : Nat} {xs : List Value} (h : w1.ownsRow w.heap.size 40 4 (.slice (some ⟨w.heap.size, 0, none⟩) n n) n xs) :
    (∀ i, i < n * 4 → ∃ v, w1.cell? ⟨w.heap.size, i, none⟩ = some v ∧ w1.frozen? ⟨w.heap.size, i, none⟩ = false) ∧ w.heap.size < w1.heap.size := by
  refine ⟨fun i hi => ?_, (h.lt _ rfl).2⟩
  have hl := h.1
  refine ⟨xs[i]'(by omega), ?_, ?_⟩
  · rw [h.cellAt i (by omega)]; exact List.getElem?_eq_getElem _
  · exact h.frozenAt i

/-- the first n elements of a slice, one cell each -/
def CellsAt (w : World) (a : Option Addr) (n : Nat) (f : Nat → Value) : Prop := ∀ i, i < n → ∃ x, a = some x ∧ w.cell? (x.add i) = some (f i)

set_option maxHeartbeats 1000000 in
theorem tokens_any (a0 a1 a2 a3 : Option Addr) (n c0 c1 c2 c3 : Nat) (ts : Nat → Tok) (w : World) (hn : n ≤ 1048576)
    (h0 : CellsAt w a0 n fun i => .int .u8 (ts i).k) (h1 : CellsAt w a1 n fun i => .string (ts i).t) (h2 : CellsAt w a2 n fun i => .int .i64 (ts i).l) (h3 : CellsAt w a3 n fun i => .bool (ts i).b) :
    Calls Try.prog 14 #[.slice a0 n c0, .slice a1 n c1, .slice a2 n c2, .slice a3 n c3] w fun e w' =>
      e = .returned (.slice (some ⟨w.heap.size, 0, none⟩) n n) ∧ (∀ i, i < n → TokAt w' w.heap.size i (ts i)) ∧ Below w.heap.size w w' ∧ w.heap.size < w'.heap.size := by
  obtain ⟨i40, hi, hz0, hz1, hz2⟩ := info_parts info40
  go_enter Try.func14, Try.ntmps14
  go_wp2_with (at_make; refine wpList_make_full _ rfl _ _ 31 rfl w.heap.size 40 i40 _ 4 Try.underlying31 hi hz0 hz1 .i64 .i64 _ _ n rfl rfl (by omega) (by omega) (by rw [hz2]; omega) (by unfold maxLen; omega) (Nat.le_refl _) ?_; intro w1 hown1 hgrow1)
  have hb1 : Below w.heap.size w w1 := (Below.refl w.heap.size w).grown hgrow1 (Nat.le_refl _) (by simp)
  go_loopw [10] (fun t wr => ∃ k : Nat, k ≤ n ∧ t = .int .i64 k ∧ (∀ i, i < k → TokAt wr w.heap.size i (ts i)) ∧ (∀ i, i < n * 4 → ∃ v, wr.cell? ⟨w.heap.size, i, none⟩ = some v ∧ wr.frozen? ⟨w.heap.size, i, none⟩ = false) ∧ Below w.heap.size w wr ∧ w.heap.size < wr.heap.size) (fun t _ => n - (intOf t).toNat)
  case atStart => exact ⟨0, by omega, rfl, fun i hi => (by omega), (tok_start hown1).1, hb1, (tok_start hown1).2⟩
  case round =>
    obtain ⟨k, hk, rfl, htok, hcel, hbel, hsz⟩ := hrel
    by_cases hlt : k < n
    · obtain ⟨x0, rfl, g0⟩ := h0 k hlt
      obtain ⟨x1, rfl, g1⟩ := h1 k hlt
      obtain ⟨x2, rfl, g2⟩ := h2 k hlt
      obtain ⟨x3, rfl, g3⟩ := h3 k hlt
      have d0 : wr.cell? (x0.add k) = some (.int .u8 (ts k).k) := (hbel.cell (World.block_lt_of_cell? w _ g0)).trans g0
      have d1 : wr.cell? (x1.add k) = some (.string (ts k).t) := (hbel.cell (World.block_lt_of_cell? w _ g1)).trans g1
      have d2 : wr.cell? (x2.add k) = some (.int .i64 (ts k).l) := (hbel.cell (World.block_lt_of_cell? w _ g2)).trans g2
      have d3 : wr.cell? (x3.add k) = some (.bool (ts k).b) := (hbel.cell (World.block_lt_of_cell? w _ g3)).trans g3
      clear g0 g1 g2 g3
      obtain ⟨v0, e0, f0⟩ := hcel (k * 4) (by omega)
      obtain ⟨v1, e1, f1⟩ := hcel (k * 4 + 1) (by omega)
      obtain ⟨v2, e2, f2⟩ := hcel (k * 4 + 2) (by omega)
      obtain ⟨v3, e3, f3⟩ := hcel (k * 4 + 3) (by omega)
      have HT := hide htok
      have HC := hide hcel
      have hkl : (k : Int) < (n : Int) := by omega
      clear htok hcel h0 h1 h2 h3
      go_wp2_with fail
      go_region
      go_wp2
      go_roundw
      case rel => exact ⟨k + 1, by omega, by go_num, tok_round hlt HT.out HC.out hbel hsz rfl⟩
      case measure => simp [intOf]; omega
    · go_wp2_with fail
      go_ret
      exact ⟨rfl, fun i hi => htok i (by omega), hbel, hsz⟩
end Go.Proofs.Qxb6618081a.St
