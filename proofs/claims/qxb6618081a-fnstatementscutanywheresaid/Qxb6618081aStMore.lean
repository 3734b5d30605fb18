/-
  ZZStatements, samePiece, walked.
-/
import Derived.Test.Qxb6618081aStPcs
namespace Go.Proofs.Qxb6618081a.St
open Go.ChangeShapes Go.WideShapes Go.ChangeAt Go.RowKit
set_option linter.unusedVariables false

theorem statements_zero (ao : Option Addr) (c : Nat) (w : World) :
    Calls Try.prog 30 #[.slice ao 0 c] w fun e w' => e = .returned (.slice none 0 0) ∧ w = w' := by
  go_enter Try.func30, Try.ntmps30
  go_wp2_with fail
  refine wp_loop_rounds 1 ?_
  rw [rounds_succ]
  go_wp2
  go_ret
  exact ⟨rfl, rfl⟩

/-- toks[a:a+m], where it is not empty, lies in block g at token a -/
theorem zzstatements_any (ao : Option Addr) (g a m n c : Nat) (ts : Nat → Tok) (w : World) (ham : a + m ≤ n) (hn : n ≤ 1048576) (hg : g < w.heap.size) (hpos : 0 < m → ao = some ⟨g, a * 4, none⟩ ∧ c = n - a) (ht : ∀ i, i < m → TokAt w g (a + i) (ts (a + i))) :
    Calls Try.prog 15 #[.slice ao m c] w fun e w' => ∃ v, e = .returned v ∧
      w'.ownsRow w.heap.size 31 1 v (pc (sepT ts) none a m).length ((pc (sepT ts) none a m).map (pieceV g n)) ∧ Below w.heap.size w w' := by
  by_cases hm : 0 < m
  · obtain ⟨rfl, rfl⟩ := hpos hm
    go_enter Try.func15, Try.ntmps15
    go_wp2_with fail
    refine (statements_pos g a m n ts _ hm ham hn hg ht).mono ?_
    rintro e w' ⟨v, rfl, ho, hb⟩
    go_wp2
    go_ret
    exact ⟨v, rfl, ho, hb⟩
  · obtain rfl : m = 0 := by omega
    clear hpos ht ham
    go_enter Try.func15, Try.ntmps15
    go_wp2_with fail
    refine (statements_zero ao c _).mono ?_
    rintro e w' ⟨rfl, rfl⟩
    go_wp2
    go_ret
    exact ⟨_, rfl, World.ownsRow_nil _ _ _ _, Below.refl _ _⟩

set_option maxHeartbeats 1000000 in
theorem same_any (g s m c c' : Nat) (ts : Nat → Tok) (w : World) (hm : m ≤ 1048576) (hg : g < w.heap.size) (ht : ∀ i, i < m → TokAt w g (s + i) (ts (s + i))) :
    Calls Try.prog 19 #[.slice (some ⟨g, s * 4, none⟩) m c, .slice (some ⟨g, s * 4, none⟩) m c'] w fun e w' => e = .returned (.bool true) ∧ Below w.heap.size w w' := by
  go_enter Try.func19, Try.ntmps19
  go_wp2_with fail
  go_loopw [5] (fun t wr => ∃ j : Nat, j ≤ m ∧ t = .int .i64 j ∧ Below w.heap.size w wr) (fun t _ => m - (intOf t).toNat)
  case atStart => exact ⟨0, by omega, rfl, Below.refl _ _⟩
  case round =>
    obtain ⟨j, hj, rfl, hbel⟩ := hrel
    by_cases hlt : j < m
    · have hsz := hbel.size
      obtain ⟨q0, q1, q2, q3⟩ := (ht j hlt).later hbel hg
      have ej : (s + j) * 4 = s * 4 + j * 4 := by omega
      rw [ej] at q0 q1 q2 q3
      obtain ⟨x, hx⟩ : ∃ x, x = ts (s + j) := ⟨_, rfl⟩
      rw [← hx] at q0 q1 q2 q3
      have hkl : (j : Int) < (m : Int) := by omega
      clear ht hx ej
      go_wp2_with fail
      refine (fields_any x.k x.t x.l x.b _).mono ?_
      rintro e w1 ⟨rfl, hb1⟩
      have hgr : g < wr.heap.size := by omega
      have p0 : w1.cell? ⟨g, s * 4 + j * 4, none⟩ = some (.int .u8 x.k) := (hb1.cell hgr).trans q0
      have p1 : w1.cell? ⟨g, s * 4 + j * 4 + 1, none⟩ = some (.string x.t) := (hb1.cell hgr).trans q1
      have p2 : w1.cell? ⟨g, s * 4 + j * 4 + 2, none⟩ = some (.int .i64 x.l) := (hb1.cell hgr).trans q2
      have p3 : w1.cell? ⟨g, s * 4 + j * 4 + 3, none⟩ = some (.bool x.b) := (hb1.cell hgr).trans q3
      go_wp2_with fail
      refine (fields_any x.k x.t x.l x.b _).mono ?_
      rintro e w2 ⟨rfl, hb2⟩
      have hs1 := hb1.size
      go_wp2_with fail
      go_roundw
      case rel => exact ⟨j + 1, by omega, by go_num, (hbel.trans (hb1.mono hsz)).trans (hb2.mono (by omega))⟩
      case measure => simp [intOf]; omega
    · go_wp2_with fail
      go_ret
      exact ⟨rfl, hbel⟩
end Go.Proofs.Qxb6618081a.St
