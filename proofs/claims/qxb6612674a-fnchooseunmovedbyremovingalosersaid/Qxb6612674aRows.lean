/-
  NARROWER THAN 'FOR EVERY INPUT', by the rows' own cells (each row's printed sentence says how): FnChooseAgreesAcrossAnyCut: maps · FnChooseUnmovedByRemovingALoser: maps.
  DERIVED. THE GIVEN ROWS OF THIS SEAT. 4 by the template 'for every input the law returns true; each argument reads behind the call as it read before'; 0 by the template 'total and deterministic' (their statements: Qxb6612674aTotals.lean).
  GIVEN WITH THE SEED: the statements are not yours to turn. If you find one false, say at which input.
  Laid BY PROGRAM, IN A SANDBOX (cutbox-rows.mjs): the forced cells as the released guide's own fill.sh prints them over the translation 11ab0007c39d498f… (all of the seat's roots in one cut). By AI agents, Wed Nov 11 2026. No macro, syntax, notation, axiom, sorry.
-/
import Derived.Test.Qxb6612674aChecked
import GoSem.Claim
import GoSem.ClaimJoined
import GoSem.ClaimMapViews
import Derived.JoinedTies
import Derived.KernelRfl
namespace Go.Proofs.Qxb6612674a
/- THE CELL 'sum', in the pinned program and in every row, IS THE sha256 OF THE DUMP (.gsa) THAT Qxb6612674aProg.lean LOADS. Nothing in Lean hashes anything: it is a label: what it is worth is what the hold of that sum in a sandbox is worth. -/
noncomputable def Try.pinned : Pinned := { name := "qxb6612674a", sum := "11ab0007c39d498fd8ba4b43c7a7d2c0dcfbdbdb7ded0539655a4be7c2867cba", checked := Try.checked }
namespace Rows
def none {H : Type} : Left H := { results := [], args := [] }

/-- 'zzlaws_internal_protocol_b1.FnWaitIsAffineInSteps': WHATEVER THE INPUT: true; the input reads as it did. -/
def fnWaitIsAffineInStepsSpec : ChangeSpec := { name := "fnWaitIsAffineInSteps", fn := fun _ => fun
  | [d1, d2, d3, d4] => { results := [.lit (.bool true)], args := [d1, d2, d3, d4] }
  | _ => none }
def fnWaitIsAffineInStepsRow : OpenClaim := { program := "qxb6612674a", sum := "11ab0007c39d498fd8ba4b43c7a7d2c0dcfbdbdb7ded0539655a4be7c2867cba", func := "example.com/leadstone/leadstone/zzlaws_internal_protocol_b1.FnWaitIsAffineInSteps", spec := "fnWaitIsAffineInSteps", apart := false }
def FnWaitIsAffineInStepsSaid : Prop := fnWaitIsAffineInStepsRow.holds Try.pinned (OpenSpec.ofChange fnWaitIsAffineInStepsSpec)

/-- ITS FALSE NEIGHBOUR: 'it returns false'. Refute it at one input. -/
def fnWaitIsAffineInStepsWrong : ChangeSpec := { name := "fnWaitIsAffineInSteps", fn := fun _ => fun
  | [d1, d2, d3, d4] => { results := [.lit (.bool false)], args := [d1, d2, d3, d4] }
  | _ => none }
def FnWaitIsAffineInStepsWrongFalsely : Prop := fnWaitIsAffineInStepsRow.holds Try.pinned (OpenSpec.ofChange fnWaitIsAffineInStepsWrong)

/-- 'zzlaws_internal_protocol_b1.FnWaitShiftsWithHeartbeatAndStep': WHATEVER THE INPUT: true; the input reads as it did. -/
def fnWaitShiftsWithHeartbeatAndStepSpec : ChangeSpec := { name := "fnWaitShiftsWithHeartbeatAndStep", fn := fun _ => fun
  | [d1, d2, d3, d4] => { results := [.lit (.bool true)], args := [d1, d2, d3, d4] }
  | _ => none }
def fnWaitShiftsWithHeartbeatAndStepRow : OpenClaim := { program := "qxb6612674a", sum := "11ab0007c39d498fd8ba4b43c7a7d2c0dcfbdbdb7ded0539655a4be7c2867cba", func := "example.com/leadstone/leadstone/zzlaws_internal_protocol_b1.FnWaitShiftsWithHeartbeatAndStep", spec := "fnWaitShiftsWithHeartbeatAndStep", apart := false }
def FnWaitShiftsWithHeartbeatAndStepSaid : Prop := fnWaitShiftsWithHeartbeatAndStepRow.holds Try.pinned (OpenSpec.ofChange fnWaitShiftsWithHeartbeatAndStepSpec)

/-- ITS FALSE NEIGHBOUR: 'it returns false'. Refute it at one input. -/
def fnWaitShiftsWithHeartbeatAndStepWrong : ChangeSpec := { name := "fnWaitShiftsWithHeartbeatAndStep", fn := fun _ => fun
  | [d1, d2, d3, d4] => { results := [.lit (.bool false)], args := [d1, d2, d3, d4] }
  | _ => none }
def FnWaitShiftsWithHeartbeatAndStepWrongFalsely : Prop := fnWaitShiftsWithHeartbeatAndStepRow.holds Try.pinned (OpenSpec.ofChange fnWaitShiftsWithHeartbeatAndStepWrong)

/-- 'zzlaws_internal_protocol_b1.FnChooseAgreesAcrossAnyCut': WHATEVER THE INPUT: true; the input reads as it did. -/
def fnChooseAgreesAcrossAnyCutSpec : ChangeSpec := { name := "fnChooseAgreesAcrossAnyCut", fn := fun _ => fun
  | [d1, d2, d3] => { results := [.lit (.bool true)], args := [d1, d2, d3] }
  | _ => none }
def fnChooseAgreesAcrossAnyCutRow : OpenClaim := { program := "qxb6612674a", sum := "11ab0007c39d498fd8ba4b43c7a7d2c0dcfbdbdb7ded0539655a4be7c2867cba", func := "example.com/leadstone/leadstone/zzlaws_internal_protocol_b1.FnChooseAgreesAcrossAnyCut", spec := "fnChooseAgreesAcrossAnyCut", unfollowed := true, recurses := true, maps := true, apart := false }
def FnChooseAgreesAcrossAnyCutSaid : Prop := fnChooseAgreesAcrossAnyCutRow.holds Try.pinned (OpenSpec.ofChange fnChooseAgreesAcrossAnyCutSpec)

/-- ITS FALSE NEIGHBOUR: 'it returns false'. Refute it at one input. -/
def fnChooseAgreesAcrossAnyCutWrong : ChangeSpec := { name := "fnChooseAgreesAcrossAnyCut", fn := fun _ => fun
  | [d1, d2, d3] => { results := [.lit (.bool false)], args := [d1, d2, d3] }
  | _ => none }
def FnChooseAgreesAcrossAnyCutWrongFalsely : Prop := fnChooseAgreesAcrossAnyCutRow.holds Try.pinned (OpenSpec.ofChange fnChooseAgreesAcrossAnyCutWrong)

/-- 'zzlaws_internal_protocol_b1.FnChooseUnmovedByRemovingALoser': WHATEVER THE INPUT: true; the input reads as it did. -/
def fnChooseUnmovedByRemovingALoserSpec : ChangeSpec := { name := "fnChooseUnmovedByRemovingALoser", fn := fun _ => fun
  | [d1, d2, d3] => { results := [.lit (.bool true)], args := [d1, d2, d3] }
  | _ => none }
def fnChooseUnmovedByRemovingALoserRow : OpenClaim := { program := "qxb6612674a", sum := "11ab0007c39d498fd8ba4b43c7a7d2c0dcfbdbdb7ded0539655a4be7c2867cba", func := "example.com/leadstone/leadstone/zzlaws_internal_protocol_b1.FnChooseUnmovedByRemovingALoser", spec := "fnChooseUnmovedByRemovingALoser", unfollowed := true, recurses := true, maps := true, apart := false }
def FnChooseUnmovedByRemovingALoserSaid : Prop := fnChooseUnmovedByRemovingALoserRow.holds Try.pinned (OpenSpec.ofChange fnChooseUnmovedByRemovingALoserSpec)

/-- ITS FALSE NEIGHBOUR: 'it returns false'. Refute it at one input. -/
def fnChooseUnmovedByRemovingALoserWrong : ChangeSpec := { name := "fnChooseUnmovedByRemovingALoser", fn := fun _ => fun
  | [d1, d2, d3] => { results := [.lit (.bool false)], args := [d1, d2, d3] }
  | _ => none }
def FnChooseUnmovedByRemovingALoserWrongFalsely : Prop := fnChooseUnmovedByRemovingALoserRow.holds Try.pinned (OpenSpec.ofChange fnChooseUnmovedByRemovingALoserWrong)

end Rows
end Go.Proofs.Qxb6612674a
