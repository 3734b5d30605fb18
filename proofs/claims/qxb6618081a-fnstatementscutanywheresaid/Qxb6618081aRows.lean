/-
  No cell of these rows narrows 'for every input' (looked for: loops, veiled, ifaces, maps, wideKeys, modest, calm, conditions, laid).
  DERIVED. THE GIVEN ROWS OF THIS SEAT. 5 by the template 'for every input the law returns true; each argument reads behind the call as it read before'; 0 by the template 'total and deterministic' (their statements: Qxb6618081aTotals.lean).
  GIVEN WITH THE SEED: the statements are not yours to turn. If you find one false, say at which input.
  Laid BY PROGRAM, IN A SANDBOX (cutbox-rows.mjs): the forced cells as the released guide's own fill.sh prints them over the translation 9386bebba6fa85e6… (all of the seat's roots in one cut). By AI agents, Wed Nov 11 2026. No macro, syntax, notation, axiom, sorry.
-/
import Derived.Test.Qxb6618081aChecked
import GoSem.Claim
import GoSem.ClaimJoined
import GoSem.ClaimMapViews
import Derived.JoinedTies
import Derived.KernelRfl
namespace Go.Proofs.Qxb6618081a
/- THE CELL 'sum', in the pinned program and in every row, IS THE sha256 OF THE DUMP (.gsa) THAT Qxb6618081aProg.lean LOADS. Nothing in Lean hashes anything: it is a label: what it is worth is what the hold of that sum in a sandbox is worth. -/
noncomputable def Try.pinned : Pinned := { name := "qxb6618081a", sum := "9386bebba6fa85e6399c52a9de1dc7750eb76b8d562ebe0f38ccf95642e2afb9", checked := Try.checked }
namespace Rows
def none {H : Type} : Left H := { results := [], args := [] }

/-- 'zzlaws_pgsql_b1.FnNumberLengthIsLongestNumericPrefix': WHATEVER THE INPUT: true; the input reads as it did. -/
def fnNumberLengthIsLongestNumericPrefixSpec : ChangeSpec := { name := "fnNumberLengthIsLongestNumericPrefix", fn := fun _ => fun
  | [d] => { results := [.lit (.bool true)], args := [d] }
  | _ => none }
def fnNumberLengthIsLongestNumericPrefixRow : OpenClaim := { program := "qxb6618081a", sum := "9386bebba6fa85e6399c52a9de1dc7750eb76b8d562ebe0f38ccf95642e2afb9", func := "example.com/isoproof/isoproof/zzlaws_pgsql_b1.FnNumberLengthIsLongestNumericPrefix", spec := "fnNumberLengthIsLongestNumericPrefix", apart := false }
def FnNumberLengthIsLongestNumericPrefixSaid : Prop := fnNumberLengthIsLongestNumericPrefixRow.holds Try.pinned (OpenSpec.ofChange fnNumberLengthIsLongestNumericPrefixSpec)

/-- ITS FALSE NEIGHBOUR: 'it returns false'. Refute it at one input. -/
def fnNumberLengthIsLongestNumericPrefixWrong : ChangeSpec := { name := "fnNumberLengthIsLongestNumericPrefix", fn := fun _ => fun
  | [d] => { results := [.lit (.bool false)], args := [d] }
  | _ => none }
def FnNumberLengthIsLongestNumericPrefixWrongFalsely : Prop := fnNumberLengthIsLongestNumericPrefixRow.holds Try.pinned (OpenSpec.ofChange fnNumberLengthIsLongestNumericPrefixWrong)

/-- 'zzlaws_pgsql_b1.FnNumberLengthCutKeepsTheNumber': WHATEVER THE INPUT: true; the input reads as it did. -/
def fnNumberLengthCutKeepsTheNumberSpec : ChangeSpec := { name := "fnNumberLengthCutKeepsTheNumber", fn := fun _ => fun
  | [d1, d2] => { results := [.lit (.bool true)], args := [d1, d2] }
  | _ => none }
def fnNumberLengthCutKeepsTheNumberRow : OpenClaim := { program := "qxb6618081a", sum := "9386bebba6fa85e6399c52a9de1dc7750eb76b8d562ebe0f38ccf95642e2afb9", func := "example.com/isoproof/isoproof/zzlaws_pgsql_b1.FnNumberLengthCutKeepsTheNumber", spec := "fnNumberLengthCutKeepsTheNumber", apart := false }
def FnNumberLengthCutKeepsTheNumberSaid : Prop := fnNumberLengthCutKeepsTheNumberRow.holds Try.pinned (OpenSpec.ofChange fnNumberLengthCutKeepsTheNumberSpec)

/-- ITS FALSE NEIGHBOUR: 'it returns false'. Refute it at one input. -/
def fnNumberLengthCutKeepsTheNumberWrong : ChangeSpec := { name := "fnNumberLengthCutKeepsTheNumber", fn := fun _ => fun
  | [d1, d2] => { results := [.lit (.bool false)], args := [d1, d2] }
  | _ => none }
def FnNumberLengthCutKeepsTheNumberWrongFalsely : Prop := fnNumberLengthCutKeepsTheNumberRow.holds Try.pinned (OpenSpec.ofChange fnNumberLengthCutKeepsTheNumberWrong)

/-- 'zzlaws_pgsql_b1.FnStatementsArePiecesBetweenSeparators': WHATEVER THE INPUT: true; the input reads as it did. -/
def fnStatementsArePiecesBetweenSeparatorsSpec : ChangeSpec := { name := "fnStatementsArePiecesBetweenSeparators", fn := fun _ => fun
  | [d1, d2, d3, d4] => { results := [.lit (.bool true)], args := [d1, d2, d3, d4] }
  | _ => none }
def fnStatementsArePiecesBetweenSeparatorsRow : OpenClaim := { program := "qxb6618081a", sum := "9386bebba6fa85e6399c52a9de1dc7750eb76b8d562ebe0f38ccf95642e2afb9", func := "example.com/isoproof/isoproof/zzlaws_pgsql_b1.FnStatementsArePiecesBetweenSeparators", spec := "fnStatementsArePiecesBetweenSeparators", apart := false }
def FnStatementsArePiecesBetweenSeparatorsSaid : Prop := fnStatementsArePiecesBetweenSeparatorsRow.holds Try.pinned (OpenSpec.ofChange fnStatementsArePiecesBetweenSeparatorsSpec)

/-- ITS FALSE NEIGHBOUR: 'it returns false'. Refute it at one input. -/
def fnStatementsArePiecesBetweenSeparatorsWrong : ChangeSpec := { name := "fnStatementsArePiecesBetweenSeparators", fn := fun _ => fun
  | [d1, d2, d3, d4] => { results := [.lit (.bool false)], args := [d1, d2, d3, d4] }
  | _ => none }
def FnStatementsArePiecesBetweenSeparatorsWrongFalsely : Prop := fnStatementsArePiecesBetweenSeparatorsRow.holds Try.pinned (OpenSpec.ofChange fnStatementsArePiecesBetweenSeparatorsWrong)

/-- 'zzlaws_pgsql_b1.FnStatementsCutAnywhere': WHATEVER THE INPUT: true; the input reads as it did. -/
def fnStatementsCutAnywhereSpec : ChangeSpec := { name := "fnStatementsCutAnywhere", fn := fun _ => fun
  | [d1, d2, d3, d4, d5] => { results := [.lit (.bool true)], args := [d1, d2, d3, d4, d5] }
  | _ => none }
def fnStatementsCutAnywhereRow : OpenClaim := { program := "qxb6618081a", sum := "9386bebba6fa85e6399c52a9de1dc7750eb76b8d562ebe0f38ccf95642e2afb9", func := "example.com/isoproof/isoproof/zzlaws_pgsql_b1.FnStatementsCutAnywhere", spec := "fnStatementsCutAnywhere", apart := false }
def FnStatementsCutAnywhereSaid : Prop := fnStatementsCutAnywhereRow.holds Try.pinned (OpenSpec.ofChange fnStatementsCutAnywhereSpec)

/-- ITS FALSE NEIGHBOUR: 'it returns false'. Refute it at one input. -/
def fnStatementsCutAnywhereWrong : ChangeSpec := { name := "fnStatementsCutAnywhere", fn := fun _ => fun
  | [d1, d2, d3, d4, d5] => { results := [.lit (.bool false)], args := [d1, d2, d3, d4, d5] }
  | _ => none }
def FnStatementsCutAnywhereWrongFalsely : Prop := fnStatementsCutAnywhereRow.holds Try.pinned (OpenSpec.ofChange fnStatementsCutAnywhereWrong)

/-- 'zzlaws_pgsql_b1.FnScopeStatementMatchesSpec': WHATEVER THE INPUT: true; the input reads as it did. -/
def fnScopeStatementMatchesSpecSpec : ChangeSpec := { name := "fnScopeStatementMatchesSpec", fn := fun _ => fun
  | [d1, d2, d3, d4, d5, d6, d7, d8, d9] => { results := [.lit (.bool true)], args := [d1, d2, d3, d4, d5, d6, d7, d8, d9] }
  | _ => none }
def fnScopeStatementMatchesSpecRow : OpenClaim := { program := "qxb6618081a", sum := "9386bebba6fa85e6399c52a9de1dc7750eb76b8d562ebe0f38ccf95642e2afb9", func := "example.com/isoproof/isoproof/zzlaws_pgsql_b1.FnScopeStatementMatchesSpec", spec := "fnScopeStatementMatchesSpec", apart := false }
def FnScopeStatementMatchesSpecSaid : Prop := fnScopeStatementMatchesSpecRow.holds Try.pinned (OpenSpec.ofChange fnScopeStatementMatchesSpecSpec)

/-- ITS FALSE NEIGHBOUR: 'it returns false'. Refute it at one input. -/
def fnScopeStatementMatchesSpecWrong : ChangeSpec := { name := "fnScopeStatementMatchesSpec", fn := fun _ => fun
  | [d1, d2, d3, d4, d5, d6, d7, d8, d9] => { results := [.lit (.bool false)], args := [d1, d2, d3, d4, d5, d6, d7, d8, d9] }
  | _ => none }
def FnScopeStatementMatchesSpecWrongFalsely : Prop := fnScopeStatementMatchesSpecRow.holds Try.pinned (OpenSpec.ofChange fnScopeStatementMatchesSpecWrong)

end Rows
end Go.Proofs.Qxb6618081a
