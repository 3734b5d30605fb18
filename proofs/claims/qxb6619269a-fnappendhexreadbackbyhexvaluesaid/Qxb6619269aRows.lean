/-
  No cell of these rows narrows 'for every input' (looked for: loops, veiled, ifaces, maps, wideKeys, modest, calm, conditions, laid).
  DERIVED. THE GIVEN ROWS OF THIS SEAT. 5 by the template 'for every input the law returns true; each argument reads behind the call as it read before'; 0 by the template 'total and deterministic' (their statements: Qxb6619269aTotals.lean).
  GIVEN WITH THE SEED: the statements are not yours to turn. If you find one false, say at which input.
  Laid BY PROGRAM, IN A SANDBOX (cutbox-rows.mjs): the forced cells as the released guide's own fill.sh prints them over the translation cba1a5e60515ca6c… (all of the seat's roots in one cut). By AI agents, Wed Nov 11 2026. No macro, syntax, notation, axiom, sorry.
-/
import Derived.Test.Qxb6619269aChecked
import GoSem.Claim
import GoSem.ClaimJoined
import GoSem.ClaimMapViews
import Derived.JoinedTies
import Derived.KernelRfl
namespace Go.Proofs.Qxb6619269a
/- THE CELL 'sum', in the pinned program and in every row, IS THE sha256 OF THE DUMP (.gsa) THAT Qxb6619269aProg.lean LOADS. Nothing in Lean hashes anything: it is a label: what it is worth is what the hold of that sum in a sandbox is worth. -/
noncomputable def Try.pinned : Pinned := { name := "qxb6619269a", sum := "cba1a5e60515ca6c3169e0368762e13d863d56b6694cd92c12d1c70b83f7441b", checked := Try.checked }
namespace Rows
def none {H : Type} : Left H := { results := [], args := [] }

/-- 'zzlaws_pkg_wire_b1.FnTokensMatchesScanModel': WHATEVER THE INPUT: true; the input reads as it did. -/
def fnTokensMatchesScanModelSpec : ChangeSpec := { name := "fnTokensMatchesScanModel", fn := fun _ => fun
  | [d1, d2, d3, d4, d5, d6, d7, d8] => { results := [.lit (.bool true)], args := [d1, d2, d3, d4, d5, d6, d7, d8] }
  | _ => none }
def fnTokensMatchesScanModelRow : OpenClaim := { program := "qxb6619269a", sum := "cba1a5e60515ca6c3169e0368762e13d863d56b6694cd92c12d1c70b83f7441b", func := "example.com/sluicegate/sluicegate/zzlaws_pkg_wire_b1.FnTokensMatchesScanModel", spec := "fnTokensMatchesScanModel", inPlace := ["internal/bytealg.IndexByte"], apart := false }
def FnTokensMatchesScanModelSaid : Prop := fnTokensMatchesScanModelRow.holds Try.pinned (OpenSpec.ofChange fnTokensMatchesScanModelSpec)

/-- ITS FALSE NEIGHBOUR: 'it returns false'. Refute it at one input. -/
def fnTokensMatchesScanModelWrong : ChangeSpec := { name := "fnTokensMatchesScanModel", fn := fun _ => fun
  | [d1, d2, d3, d4, d5, d6, d7, d8] => { results := [.lit (.bool false)], args := [d1, d2, d3, d4, d5, d6, d7, d8] }
  | _ => none }
def FnTokensMatchesScanModelWrongFalsely : Prop := fnTokensMatchesScanModelRow.holds Try.pinned (OpenSpec.ofChange fnTokensMatchesScanModelWrong)

/-- 'zzlaws_pkg_wire_b1.FnTokensCutFieldsAnywhere': WHATEVER THE INPUT: true; the input reads as it did. -/
def fnTokensCutFieldsAnywhereSpec : ChangeSpec := { name := "fnTokensCutFieldsAnywhere", fn := fun _ => fun
  | [d1, d2, d3, d4, d5, d6, d7, d8, d9] => { results := [.lit (.bool true)], args := [d1, d2, d3, d4, d5, d6, d7, d8, d9] }
  | _ => none }
def fnTokensCutFieldsAnywhereRow : OpenClaim := { program := "qxb6619269a", sum := "cba1a5e60515ca6c3169e0368762e13d863d56b6694cd92c12d1c70b83f7441b", func := "example.com/sluicegate/sluicegate/zzlaws_pkg_wire_b1.FnTokensCutFieldsAnywhere", spec := "fnTokensCutFieldsAnywhere", inPlace := ["internal/bytealg.IndexByte"], apart := false }
def FnTokensCutFieldsAnywhereSaid : Prop := fnTokensCutFieldsAnywhereRow.holds Try.pinned (OpenSpec.ofChange fnTokensCutFieldsAnywhereSpec)

/-- ITS FALSE NEIGHBOUR: 'it returns false'. Refute it at one input. -/
def fnTokensCutFieldsAnywhereWrong : ChangeSpec := { name := "fnTokensCutFieldsAnywhere", fn := fun _ => fun
  | [d1, d2, d3, d4, d5, d6, d7, d8, d9] => { results := [.lit (.bool false)], args := [d1, d2, d3, d4, d5, d6, d7, d8, d9] }
  | _ => none }
def FnTokensCutFieldsAnywhereWrongFalsely : Prop := fnTokensCutFieldsAnywhereRow.holds Try.pinned (OpenSpec.ofChange fnTokensCutFieldsAnywhereWrong)

/-- 'zzlaws_pkg_wire_b1.FnAppendHexDigitsByPosition': WHATEVER THE INPUT: true; the input reads as it did. -/
def fnAppendHexDigitsByPositionSpec : ChangeSpec := { name := "fnAppendHexDigitsByPosition", fn := fun _ => fun
  | [d1, d2] => { results := [.lit (.bool true)], args := [d1, d2] }
  | _ => none }
def fnAppendHexDigitsByPositionRow : OpenClaim := { program := "qxb6619269a", sum := "cba1a5e60515ca6c3169e0368762e13d863d56b6694cd92c12d1c70b83f7441b", func := "example.com/sluicegate/sluicegate/zzlaws_pkg_wire_b1.FnAppendHexDigitsByPosition", spec := "fnAppendHexDigitsByPosition", apart := false }
def FnAppendHexDigitsByPositionSaid : Prop := fnAppendHexDigitsByPositionRow.holds Try.pinned (OpenSpec.ofChange fnAppendHexDigitsByPositionSpec)

/-- ITS FALSE NEIGHBOUR: 'it returns false'. Refute it at one input. -/
def fnAppendHexDigitsByPositionWrong : ChangeSpec := { name := "fnAppendHexDigitsByPosition", fn := fun _ => fun
  | [d1, d2] => { results := [.lit (.bool false)], args := [d1, d2] }
  | _ => none }
def FnAppendHexDigitsByPositionWrongFalsely : Prop := fnAppendHexDigitsByPositionRow.holds Try.pinned (OpenSpec.ofChange fnAppendHexDigitsByPositionWrong)

/-- 'zzlaws_pkg_wire_b1.FnAppendHexReadBackByHexValue': WHATEVER THE INPUT: true; the input reads as it did. -/
def fnAppendHexReadBackByHexValueSpec : ChangeSpec := { name := "fnAppendHexReadBackByHexValue", fn := fun _ => fun
  | [d1, d2] => { results := [.lit (.bool true)], args := [d1, d2] }
  | _ => none }
def fnAppendHexReadBackByHexValueRow : OpenClaim := { program := "qxb6619269a", sum := "cba1a5e60515ca6c3169e0368762e13d863d56b6694cd92c12d1c70b83f7441b", func := "example.com/sluicegate/sluicegate/zzlaws_pkg_wire_b1.FnAppendHexReadBackByHexValue", spec := "fnAppendHexReadBackByHexValue", apart := false }
def FnAppendHexReadBackByHexValueSaid : Prop := fnAppendHexReadBackByHexValueRow.holds Try.pinned (OpenSpec.ofChange fnAppendHexReadBackByHexValueSpec)

/-- ITS FALSE NEIGHBOUR: 'it returns false'. Refute it at one input. -/
def fnAppendHexReadBackByHexValueWrong : ChangeSpec := { name := "fnAppendHexReadBackByHexValue", fn := fun _ => fun
  | [d1, d2] => { results := [.lit (.bool false)], args := [d1, d2] }
  | _ => none }
def FnAppendHexReadBackByHexValueWrongFalsely : Prop := fnAppendHexReadBackByHexValueRow.holds Try.pinned (OpenSpec.ofChange fnAppendHexReadBackByHexValueWrong)

/-- 'zzlaws_pkg_wire_b1.FnHexValueAgreesWithAppendHexDigits': WHATEVER THE INPUT: true; the input reads as it did. -/
def fnHexValueAgreesWithAppendHexDigitsSpec : ChangeSpec := { name := "fnHexValueAgreesWithAppendHexDigits", fn := fun _ => fun
  | [d] => { results := [.lit (.bool true)], args := [d] }
  | _ => none }
def fnHexValueAgreesWithAppendHexDigitsRow : OpenClaim := { program := "qxb6619269a", sum := "cba1a5e60515ca6c3169e0368762e13d863d56b6694cd92c12d1c70b83f7441b", func := "example.com/sluicegate/sluicegate/zzlaws_pkg_wire_b1.FnHexValueAgreesWithAppendHexDigits", spec := "fnHexValueAgreesWithAppendHexDigits", apart := false }
def FnHexValueAgreesWithAppendHexDigitsSaid : Prop := fnHexValueAgreesWithAppendHexDigitsRow.holds Try.pinned (OpenSpec.ofChange fnHexValueAgreesWithAppendHexDigitsSpec)

/-- ITS FALSE NEIGHBOUR: 'it returns false'. Refute it at one input. -/
def fnHexValueAgreesWithAppendHexDigitsWrong : ChangeSpec := { name := "fnHexValueAgreesWithAppendHexDigits", fn := fun _ => fun
  | [d] => { results := [.lit (.bool false)], args := [d] }
  | _ => none }
def FnHexValueAgreesWithAppendHexDigitsWrongFalsely : Prop := fnHexValueAgreesWithAppendHexDigitsRow.holds Try.pinned (OpenSpec.ofChange fnHexValueAgreesWithAppendHexDigitsWrong)

end Rows
end Go.Proofs.Qxb6619269a
