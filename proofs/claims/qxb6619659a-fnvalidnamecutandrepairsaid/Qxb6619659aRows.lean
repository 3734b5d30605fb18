/-
  No cell of these rows narrows 'for every input' (looked for: loops, veiled, ifaces, maps, wideKeys, modest, calm, conditions, laid).
  DERIVED. THE GIVEN ROWS OF THIS SEAT. 3 by the template 'for every input the law returns true; each argument reads behind the call as it read before'; 0 by the template 'total and deterministic' (their statements: Qxb6619659aTotals.lean).
  GIVEN WITH THE SEED: the statements are not yours to turn. If you find one false, say at which input.
  Laid BY PROGRAM, IN A SANDBOX (cutbox-rows.mjs): the forced cells as the released guide's own fill.sh prints them over the translation abe7ff683292fdf5… (all of the seat's roots in one cut). By AI agents, Wed Nov 11 2026. No macro, syntax, notation, axiom, sorry.
-/
import Derived.Test.Qxb6619659aChecked
import GoSem.Claim
import GoSem.ClaimJoined
import GoSem.ClaimMapViews
import Derived.JoinedTies
import Derived.KernelRfl
namespace Go.Proofs.Qxb6619659a
/- THE CELL 'sum', in the pinned program and in every row, IS THE sha256 OF THE DUMP (.gsa) THAT Qxb6619659aProg.lean LOADS. Nothing in Lean hashes anything: it is a label: what it is worth is what the hold of that sum in a sandbox is worth. -/
noncomputable def Try.pinned : Pinned := { name := "qxb6619659a", sum := "abe7ff683292fdf5a34aed96b8489b8a517a398ffd9d872e551a46c6f4e2d45a", checked := Try.checked }
namespace Rows
def none {H : Type} : Left H := { results := [], args := [] }

/-- 'zzlaws_cni_b1.FnValidIfNameCutAndRepair': WHATEVER THE INPUT: true; the input reads as it did. -/
def fnValidIfNameCutAndRepairSpec : ChangeSpec := { name := "fnValidIfNameCutAndRepair", fn := fun _ => fun
  | [d1, d2] => { results := [.lit (.bool true)], args := [d1, d2] }
  | _ => none }
def fnValidIfNameCutAndRepairRow : OpenClaim := { program := "qxb6619659a", sum := "abe7ff683292fdf5a34aed96b8489b8a517a398ffd9d872e551a46c6f4e2d45a", func := "example.com/vethforge/vethforge/zzlaws_cni_b1.FnValidIfNameCutAndRepair", spec := "fnValidIfNameCutAndRepair", inPlace := ["internal/bytealg.IndexByteString"], apart := false }
def FnValidIfNameCutAndRepairSaid : Prop := fnValidIfNameCutAndRepairRow.holds Try.pinned (OpenSpec.ofChange fnValidIfNameCutAndRepairSpec)

/-- ITS FALSE NEIGHBOUR: 'it returns false'. Refute it at one input. -/
def fnValidIfNameCutAndRepairWrong : ChangeSpec := { name := "fnValidIfNameCutAndRepair", fn := fun _ => fun
  | [d1, d2] => { results := [.lit (.bool false)], args := [d1, d2] }
  | _ => none }
def FnValidIfNameCutAndRepairWrongFalsely : Prop := fnValidIfNameCutAndRepairRow.holds Try.pinned (OpenSpec.ofChange fnValidIfNameCutAndRepairWrong)

/-- 'zzlaws_cni_b1.FnNameFitsIfName': WHATEVER THE INPUT: true; the input reads as it did. -/
def fnNameFitsIfNameSpec : ChangeSpec := { name := "fnNameFitsIfName", fn := fun _ => fun
  | [d] => { results := [.lit (.bool true)], args := [d] }
  | _ => none }
def fnNameFitsIfNameRow : OpenClaim := { program := "qxb6619659a", sum := "abe7ff683292fdf5a34aed96b8489b8a517a398ffd9d872e551a46c6f4e2d45a", func := "example.com/vethforge/vethforge/zzlaws_cni_b1.FnNameFitsIfName", spec := "fnNameFitsIfName", inPlace := ["internal/bytealg.IndexByteString"], apart := false }
def FnNameFitsIfNameSaid : Prop := fnNameFitsIfNameRow.holds Try.pinned (OpenSpec.ofChange fnNameFitsIfNameSpec)

/-- ITS FALSE NEIGHBOUR: 'it returns false'. Refute it at one input. -/
def fnNameFitsIfNameWrong : ChangeSpec := { name := "fnNameFitsIfName", fn := fun _ => fun
  | [d] => { results := [.lit (.bool false)], args := [d] }
  | _ => none }
def FnNameFitsIfNameWrongFalsely : Prop := fnNameFitsIfNameRow.holds Try.pinned (OpenSpec.ofChange fnNameFitsIfNameWrong)

/-- 'zzlaws_cni_b1.FnValidNameCutAndRepair': WHATEVER THE INPUT: true; the input reads as it did. -/
def fnValidNameCutAndRepairSpec : ChangeSpec := { name := "fnValidNameCutAndRepair", fn := fun _ => fun
  | [d1, d2] => { results := [.lit (.bool true)], args := [d1, d2] }
  | _ => none }
def fnValidNameCutAndRepairRow : OpenClaim := { program := "qxb6619659a", sum := "abe7ff683292fdf5a34aed96b8489b8a517a398ffd9d872e551a46c6f4e2d45a", func := "example.com/vethforge/vethforge/zzlaws_cni_b1.FnValidNameCutAndRepair", spec := "fnValidNameCutAndRepair", apart := false }
def FnValidNameCutAndRepairSaid : Prop := fnValidNameCutAndRepairRow.holds Try.pinned (OpenSpec.ofChange fnValidNameCutAndRepairSpec)

/-- ITS FALSE NEIGHBOUR: 'it returns false'. Refute it at one input. -/
def fnValidNameCutAndRepairWrong : ChangeSpec := { name := "fnValidNameCutAndRepair", fn := fun _ => fun
  | [d1, d2] => { results := [.lit (.bool false)], args := [d1, d2] }
  | _ => none }
def FnValidNameCutAndRepairWrongFalsely : Prop := fnValidNameCutAndRepairRow.holds Try.pinned (OpenSpec.ofChange fnValidNameCutAndRepairWrong)

end Rows
end Go.Proofs.Qxb6619659a
