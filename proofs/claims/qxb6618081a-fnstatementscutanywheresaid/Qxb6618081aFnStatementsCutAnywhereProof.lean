/-
  'Rows.FnStatementsCutAnywhereSaid', proved. The frame is the guide's; the walk lies in Qxb6618081aStLaw4.
-/
import Derived.Test.Qxb6618081aRows
import Derived.WalkKit
import Derived.ProofKit
import Derived.OpenShut
import Derived.ShutString
import Derived.ChangeOld
import Derived.Below
import Derived.SliceStrings
import Derived.Deep.Grids
import Derived.Test.Qxb6618081aStLaw4
namespace Go.Proofs.Qxb6618081a.fnStatementsCutAnywhere
open Go.ChangeShapes Go.WideShapes Go.ChangeAt Go.RowKit
open Go.ChangeMaps (open_string shut_string)
set_option linter.unusedVariables false

theorem own : ownKnob Try.prog.godebug = none := by kernel_rfl
theorem laidOut : laidOutB Try.prog = true := by kernel_rfl

set_option maxRecDepth 100000 in
theorem lifted (os : Os) (started : os.Started) (H : Type) (enc : TypeId × Value → H) :
    ReturnsInHanded {} Try.checked os 6 .any (Rows.fnStatementsCutAnywhereSpec.pre6 enc Try.prog Try.f6 Rows.fnStatementsCutAnywhereRow.domain false) (Rows.fnStatementsCutAnywhereSpec.post enc Try.prog Try.f6 false true false false) := by
  refine returnsInHanded_of_change (C := Try.checked) own started (by kernel_rfl) Try.func6
    (ChangeSpec.witness6 (enc := enc) (C := Try.checked) false ⟨#[], #[.slice none 0 0, .slice none 0 0, .slice none 0 0, .slice none 0 0, .int .i64 0], []⟩ 8 (by kernel_rfl) (by kernel_rfl) (by kernel_rfl) (by kernel_rfl)) ?_
  intro W base args ds gs before hval0 hW hcnd _
  have hval : ∀ (j : Nat) t v, Try.f6.params[j]? = some t → args[j]? = some v → Value.okWide Try.prog W .any base t v := hval0
  have hW' := hW
  obtain ⟨p, q, hA0, hV, rfl, hfz, hnd⟩ := hW
  have hA : DataW.TrodAll enc Try.prog W 0 (fun _ => true) true Try.f6.params.toList args.toList ds p := hA0
  rw [Try.params6] at hA hval
  obtain ⟨v0, vs0, d0, ds0, p0, q0, hargs, rfl, rfl, h0, r0⟩ := trodAll_cons hA
  obtain ⟨v1, vs1, d1, ds1, p1, q1, rfl, rfl, rfl, h1, r1⟩ := trodAll_cons r0
  obtain ⟨v2, vs2, d2, ds2, p2, q2, rfl, rfl, rfl, h2, r2⟩ := trodAll_cons r1
  obtain ⟨v3, vs3, d3, ds3, p3, q3, rfl, rfl, rfl, h3, r3⟩ := trodAll_cons r2
  obtain ⟨v4, vs4, d4, ds4, p4, q4, rfl, rfl, rfl, h4, r4⟩ := trodAll_cons r3
  obtain ⟨rfl, rfl, rfl⟩ := trodAll_nil r4
  obtain rfl : args = #[v0, v1, v2, v3, v4] := by cases args; simp_all
  obtain ⟨rfl, rfl⟩ := trodVars_none hV
  obtain ⟨a0, l0, c0, rfl⟩ := okWide_slice Try.underlying26 (hval 0 26 v0 rfl rfl)
  have k0 := h0
  have lt0 : ∀ x ∈ p0, x.block < W.heap.size := by obtain ⟨m, hm⟩ := k0; exact DataW.trod_lt m _ _ _ hm
  obtain ⟨a1, l1, c1, rfl⟩ := okWide_slice Try.underlying27 (hval 1 27 v1 rfl rfl)
  have k1 := h1
  have lt1 : ∀ x ∈ p1, x.block < W.heap.size := by obtain ⟨m, hm⟩ := k1; exact DataW.trod_lt m _ _ _ hm
  obtain ⟨a2, l2, c2, rfl⟩ := okWide_slice Try.underlying28 (hval 2 28 v2 rfl rfl)
  have k2 := h2
  have lt2 : ∀ x ∈ p2, x.block < W.heap.size := by obtain ⟨m, hm⟩ := k2; exact DataW.trod_lt m _ _ _ hm
  obtain ⟨a3, l3, c3, rfl⟩ := okWide_slice Try.underlying29 (hval 3 29 v3 rfl rfl)
  have k3 := h3
  have lt3 : ∀ x ∈ p3, x.block < W.heap.size := by obtain ⟨m, hm⟩ := k3; exact DataW.trod_lt m _ _ _ hm
  obtain ⟨f0, n0, m0, C0⟩ : ∃ f : Nat → Int, (a0 = none → l0 = 0) ∧ l0 ≤ 9223372036854775807 ∧ St.CellsAt W a0 l0 fun i => .int .u8 (f i) := by
    obtain ⟨fuel, hf⟩ := h0
    rcases open_ints Try.underlying26 Try.underlying5 (by kernel_rfl) hf with ⟨hcs, _⟩ | ⟨x, l, c, zs, hcs, _, hl, hm, hz, _, hcell, hwz⟩
    · simp [Value.cells] at hcs
      obtain ⟨rfl, rfl, rfl⟩ := hcs
      exact ⟨fun _ => 0, fun _ => rfl, by omega, St.CellsAt.none⟩
    · simp [Value.cells] at hcs
      obtain ⟨rfl, rfl, rfl⟩ := hcs
      unfold maxLen at hm
      exact ⟨fun i => zs.getD i 0, fun h => (by cases h), by omega, fun i hi => ⟨_, rfl, hcell i (by simp at hz; omega)⟩⟩
  obtain ⟨ss, n1, m1, C1, hr⟩ : ∃ ss : List ByteArray, (a1 = none → l1 = 0) ∧ l1 ≤ 9223372036854775807 ∧ (St.CellsAt W a1 l1 fun i => .string (ss.getD i ByteArray.empty)) ∧ St.StrRow W a1 l1 ss := by
    obtain ⟨fuel, hf⟩ := h1
    rcases open_strings Try.underlying27 Try.underlying9 (by kernel_rfl) hf with ⟨hcs, _⟩ | ⟨x, l, c, zs, hcs, _, hl, hm, hz, _, hcell, hwz⟩
    · simp [Value.cells] at hcs
      obtain ⟨rfl, rfl, rfl⟩ := hcs
      exact ⟨[], fun _ => rfl, by omega, St.CellsAt.none, rfl, fun s hs => (by cases hs), fun _ => rfl, fun x hx => (by cases hx)⟩
    · simp [Value.cells] at hcs
      obtain ⟨rfl, rfl, rfl⟩ := hcs
      have hz2 : zs.length = c1 := by simpa using hz
      have hget : ∀ i, i < l1 → (zs.take l1).getD i ByteArray.empty = zs.getD i ByteArray.empty := by
        intro i hi
        simp [hi]
      unfold maxLen at hm
      refine ⟨zs.take l1, fun h => (by cases h), by omega, fun i hi => ⟨_, rfl, ?_⟩, by simp; omega, fun s hs => hwz s (List.mem_of_mem_take hs), fun h => (by cases h), ?_⟩
      · show W.cell? (x.add i) = some (Value.string ((List.take l1 zs).getD i ByteArray.empty))
        rw [hget i hi]
        exact hcell i (by omega)
      · intro y hy i hi
        simp only [Option.some.injEq] at hy
        subst hy
        rw [hget i hi]
        exact hcell i (by omega)
  obtain ⟨f2, n2, m2, C2⟩ : ∃ f : Nat → Int, (a2 = none → l2 = 0) ∧ l2 ≤ 9223372036854775807 ∧ St.CellsAt W a2 l2 fun i => .int .i64 (f i) := by
    obtain ⟨fuel, hf⟩ := h2
    rcases open_ints Try.underlying28 Try.underlying3 (by kernel_rfl) hf with ⟨hcs, _⟩ | ⟨x, l, c, zs, hcs, _, hl, hm, hz, _, hcell, hwz⟩
    · simp [Value.cells] at hcs
      obtain ⟨rfl, rfl, rfl⟩ := hcs
      exact ⟨fun _ => 0, fun _ => rfl, by omega, St.CellsAt.none⟩
    · simp [Value.cells] at hcs
      obtain ⟨rfl, rfl, rfl⟩ := hcs
      unfold maxLen at hm
      exact ⟨fun i => zs.getD i 0, fun h => (by cases h), by omega, fun i hi => ⟨_, rfl, hcell i (by simp at hz; omega)⟩⟩
  obtain ⟨f3, n3, m3, C3⟩ : ∃ f : Nat → Bool, (a3 = none → l3 = 0) ∧ l3 ≤ 9223372036854775807 ∧ St.CellsAt W a3 l3 fun i => .bool (f i) := by
    obtain ⟨fuel, hf⟩ := h3
    rcases Go.Deep.open_bools Try.underlying29 Try.underlying4 (by kernel_rfl) hf with ⟨hcs, _⟩ | ⟨x, l, c, B, hcs, _, hl, hm, _, hcell⟩
    · simp [Value.cells] at hcs
      obtain ⟨rfl, rfl, rfl⟩ := hcs
      exact ⟨fun _ => false, fun _ => rfl, by omega, St.CellsAt.none⟩
    · simp [Value.cells] at hcs
      obtain ⟨rfl, rfl, rfl⟩ := hcs
      unfold maxLen at hm
      exact ⟨B, fun h => (by cases h), by omega, fun i hi => ⟨_, rfl, hcell i (by omega)⟩⟩
  obtain ⟨iv, rfl, rfl, rfl, w4⟩ := open_int Try.underlying3 (hval 4 3 v4 rfl rfl) h4
  clear hA0 hval0
  refine (St.law4_core a0 a1 a2 a3 l0 l1 l2 l3 c0 c1 c2 c3 iv (fun i => ⟨f0 i, ss.getD i ByteArray.empty, f2 i, f3 i⟩) ss W m0 m1 m2 m3 n0 n1 n2 n3 hr C0 C1 C2 C3 (bounds_i64 w4).1 (bounds_i64 w4).2).mono fun e W' ⟨he, bel⟩ => ?_
  subst he
  exact ⟨_, rfl, _, _, _, [], _, [], hW', trodAll_mk1 (shut_bool Try.underlying4 _), (trodAll_cons_mk (Below.trod laidOut (by kernel_rfl) (of_decide_eq_true (by kernel_rfl)) k0 bel lt0) (trodAll_cons_mk (Below.trod laidOut (by kernel_rfl) (of_decide_eq_true (by kernel_rfl)) k1 bel lt1) (trodAll_cons_mk (Below.trod laidOut (by kernel_rfl) (of_decide_eq_true (by kernel_rfl)) k2 bel lt2) (trodAll_cons_mk (Below.trod laidOut (by kernel_rfl) (of_decide_eq_true (by kernel_rfl)) k3 bel lt3) (trodAll_cons_mk (shut_int Try.underlying3 w4) trodAll_mk0))))), rfl, bel.frame _, fun h => by cases h⟩

theorem over : Rows.fnStatementsCutAnywhereRow.holds Try.pinned (OpenSpec.ofChange Rows.fnStatementsCutAnywhereSpec) :=
  OpenClaim.holds_of_wide 6 Try.f6 rfl rfl rfl rfl rfl rfl rfl ⟨rfl, rfl, rfl, rfl, rfl⟩ rfl rfl rfl rfl rfl (by kernel_rfl) Try.func6 (by kernel_rfl)
    (of_decide_eq_true (by kernel_rfl)) (by unfold Func.isWrapper; first | (rw [if_pos (by decide +kernel)]; kernel_rfl) | (rw [if_neg (by decide +kernel)]; exact ⟨rfl, rfl⟩))
    (fun os started H enc _ => lifted os started H enc)

/-- ████ THE STATEMENT ████ -/
theorem proved : Rows.FnStatementsCutAnywhereSaid := over
#print axioms proved
end Go.Proofs.Qxb6618081a.fnStatementsCutAnywhere
