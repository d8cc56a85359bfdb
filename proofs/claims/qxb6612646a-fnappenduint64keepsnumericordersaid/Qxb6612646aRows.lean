/-
  No cell of these rows narrows 'for every input' (looked for: loops, veiled, ifaces, maps, wideKeys, modest, calm, conditions, laid).
  DERIVED. THE GIVEN ROWS OF THIS SEAT. 3 by the template 'for every input the law returns true; each argument reads behind the call as it read before'; 0 by the template 'total and deterministic' (their statements: Qxb6612646aTotals.lean).
  GIVEN WITH THE SEED: the statements are not yours to turn. If you find one false, say at which input.
  Laid BY PROGRAM, IN A SANDBOX (cutbox-rows.mjs): the forced cells as the released guide's own fill.sh prints them over the translation a75f742737bf1067… (all of the seat's roots in one cut). By AI agents, Wed Nov 11 2026. No macro, syntax, notation, axiom, sorry.
-/
import Derived.Test.Qxb6612646aChecked
import GoSem.Claim
import GoSem.ClaimJoined
import GoSem.ClaimMapViews
import Derived.JoinedTies
import Derived.KernelRfl
namespace Go.Proofs.Qxb6612646a
/- THE CELL 'sum', in the pinned program and in every row, IS THE sha256 OF THE DUMP (.gsa) THAT Qxb6612646aProg.lean LOADS. Nothing in Lean hashes anything: it is a label: what it is worth is what the hold of that sum in a sandbox is worth. -/
noncomputable def Try.pinned : Pinned := { name := "qxb6612646a", sum := "a75f742737bf106784d1b9004196991100ef894893ce1fe619a1003c109544e5", checked := Try.checked }
namespace Rows
def none {H : Type} : Left H := { results := [], args := [] }

/-- 'zzlaws_pkg_wire_b1.FnIsLinkDecidedBySymlinkBitAlone': WHATEVER THE INPUT: true; the input reads as it did. -/
def fnIsLinkDecidedBySymlinkBitAloneSpec : ChangeSpec := { name := "fnIsLinkDecidedBySymlinkBitAlone", fn := fun _ => fun
  | [d1, d2, d3, d4, d5, d6] => { results := [.lit (.bool true)], args := [d1, d2, d3, d4, d5, d6] }
  | _ => none }
def fnIsLinkDecidedBySymlinkBitAloneRow : OpenClaim := { program := "qxb6612646a", sum := "a75f742737bf106784d1b9004196991100ef894893ce1fe619a1003c109544e5", func := "example.com/blockmere/blockmere/zzlaws_pkg_wire_b1.FnIsLinkDecidedBySymlinkBitAlone", spec := "fnIsLinkDecidedBySymlinkBitAlone", apart := false }
def FnIsLinkDecidedBySymlinkBitAloneSaid : Prop := fnIsLinkDecidedBySymlinkBitAloneRow.holds Try.pinned (OpenSpec.ofChange fnIsLinkDecidedBySymlinkBitAloneSpec)

/-- ITS FALSE NEIGHBOUR: 'it returns false'. Refute it at one input. -/
def fnIsLinkDecidedBySymlinkBitAloneWrong : ChangeSpec := { name := "fnIsLinkDecidedBySymlinkBitAlone", fn := fun _ => fun
  | [d1, d2, d3, d4, d5, d6] => { results := [.lit (.bool false)], args := [d1, d2, d3, d4, d5, d6] }
  | _ => none }
def FnIsLinkDecidedBySymlinkBitAloneWrongFalsely : Prop := fnIsLinkDecidedBySymlinkBitAloneRow.holds Try.pinned (OpenSpec.ofChange fnIsLinkDecidedBySymlinkBitAloneWrong)

/-- 'zzlaws_pkg_wire_b1.FnAppendUint64TwoInARowReadBack': WHATEVER THE INPUT: true; the input reads as it did. -/
def fnAppendUint64TwoInARowReadBackSpec : ChangeSpec := { name := "fnAppendUint64TwoInARowReadBack", fn := fun _ => fun
  | [d1, d2, d3] => { results := [.lit (.bool true)], args := [d1, d2, d3] }
  | _ => none }
def fnAppendUint64TwoInARowReadBackRow : OpenClaim := { program := "qxb6612646a", sum := "a75f742737bf106784d1b9004196991100ef894893ce1fe619a1003c109544e5", func := "example.com/blockmere/blockmere/zzlaws_pkg_wire_b1.FnAppendUint64TwoInARowReadBack", spec := "fnAppendUint64TwoInARowReadBack", named := ["encoding/binary.BigEndian"], apart := false }
def FnAppendUint64TwoInARowReadBackSaid : Prop := fnAppendUint64TwoInARowReadBackRow.holds Try.pinned (OpenSpec.ofChange fnAppendUint64TwoInARowReadBackSpec)

/-- ITS FALSE NEIGHBOUR: 'it returns false'. Refute it at one input. -/
def fnAppendUint64TwoInARowReadBackWrong : ChangeSpec := { name := "fnAppendUint64TwoInARowReadBack", fn := fun _ => fun
  | [d1, d2, d3] => { results := [.lit (.bool false)], args := [d1, d2, d3] }
  | _ => none }
def FnAppendUint64TwoInARowReadBackWrongFalsely : Prop := fnAppendUint64TwoInARowReadBackRow.holds Try.pinned (OpenSpec.ofChange fnAppendUint64TwoInARowReadBackWrong)

/-- 'zzlaws_pkg_wire_b1.FnAppendUint64KeepsNumericOrder': WHATEVER THE INPUT: true; the input reads as it did. -/
def fnAppendUint64KeepsNumericOrderSpec : ChangeSpec := { name := "fnAppendUint64KeepsNumericOrder", fn := fun _ => fun
  | [d1, d2, d3] => { results := [.lit (.bool true)], args := [d1, d2, d3] }
  | _ => none }
def fnAppendUint64KeepsNumericOrderRow : OpenClaim := { program := "qxb6612646a", sum := "a75f742737bf106784d1b9004196991100ef894893ce1fe619a1003c109544e5", func := "example.com/blockmere/blockmere/zzlaws_pkg_wire_b1.FnAppendUint64KeepsNumericOrder", spec := "fnAppendUint64KeepsNumericOrder", named := ["encoding/binary.BigEndian"], apart := false }
def FnAppendUint64KeepsNumericOrderSaid : Prop := fnAppendUint64KeepsNumericOrderRow.holds Try.pinned (OpenSpec.ofChange fnAppendUint64KeepsNumericOrderSpec)

/-- ITS FALSE NEIGHBOUR: 'it returns false'. Refute it at one input. -/
def fnAppendUint64KeepsNumericOrderWrong : ChangeSpec := { name := "fnAppendUint64KeepsNumericOrder", fn := fun _ => fun
  | [d1, d2, d3] => { results := [.lit (.bool false)], args := [d1, d2, d3] }
  | _ => none }
def FnAppendUint64KeepsNumericOrderWrongFalsely : Prop := fnAppendUint64KeepsNumericOrderRow.holds Try.pinned (OpenSpec.ofChange fnAppendUint64KeepsNumericOrderWrong)

end Rows
end Go.Proofs.Qxb6612646a
