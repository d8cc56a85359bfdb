/-
  NARROWER THAN 'FOR EVERY INPUT', by the rows' own cells (each row's printed sentence says how): FnDesignNamesDistinct: laid.
  DERIVED. THE GIVEN ROWS OF THIS SEAT. 1 by the template 'for every input the law returns true; each argument reads behind the call as it read before'; 0 by the template 'total and deterministic' (their statements: Qxb6612705aDoorTotals.lean).
  GIVEN WITH THE SEED: the statements are not yours to turn. If you find one false, say at which input.
  Laid BY PROGRAM, IN A SANDBOX (cutbox-rows.mjs): the forced cells as the released guide's own fill.sh prints them over the translation 87aa842189f59b6b… (all of the seat's roots in one cut). By AI agents, Wed Nov 11 2026. No macro, syntax, notation, axiom, sorry.
-/
import Derived.Test.Qxb6612705aDoorChecked
import GoSem.Claim
import GoSem.ClaimJoined
import GoSem.ClaimMapViews
import Derived.JoinedTies
import Derived.KernelRfl
namespace Go.Proofs.Qxb6612705aDoor
/- THE CELL 'sum', in the pinned program and in every row, IS THE sha256 OF THE DUMP (.gsa) THAT Qxb6612705aDoorProg.lean LOADS. Nothing in Lean hashes anything: it is a label: what it is worth is what the hold of that sum in a sandbox is worth. -/
noncomputable def Tryd.pinned : Pinned := { name := "qxb6612705adoor", sum := "87aa842189f59b6b6e6e7f06a58a9ce7a7e952130e987d9540c2a800e28e8b05", checked := Tryd.checked }
namespace Rows
def none {H : Type} : Left H := { results := [], args := [] }

/- WHAT THE LISTED PACKAGE-LEVEL VARIABLES READ AS WHEN THE CALL BEGINS. Each datum BY PROGRAM (the guide's laid-datum.mjs) off the statement by which the dump's own 'gosem.cut.vars' lays the variable. In a bare row this is a premise. The card (Qxb6612705aDoorCards.lean) ties it to the program's text. -/
def laid_example_com_coheron_coheron_internal_sim_designNames {H : Type} : DataW H := .agg [.lit (.string [104, 101, 99]), .lit (.string [104, 99])]

/-- 'zzlaws_internal_sim_b1.FnDesignNamesDistinct': WHATEVER THE INPUT: true; the input reads as it did. -/
def fnDesignNamesDistinctSpec : ChangeSpec := { name := "fnDesignNamesDistinct", vars := ["example.com/coheron/coheron/internal/sim.designNames"], fn := fun _ => fun
  | [d1, d2, g1] => { results := [.lit (.bool true)], args := [d1, d2], vars := [g1] }
  | _ => none }
def fnDesignNamesDistinctRow : OpenClaim := { program := "qxb6612705adoor", sum := "87aa842189f59b6b6e6e7f06a58a9ce7a7e952130e987d9540c2a800e28e8b05", func := "example.com/coheron/coheron/zzlaws_internal_sim_b1.FnDesignNamesDistinct", spec := "fnDesignNamesDistinct", named := ["example.com/coheron/coheron/internal/sim.designNames"], apart := false, laid := [("example.com/coheron/coheron/internal/sim.designNames", laid_example_com_coheron_coheron_internal_sim_designNames)] }
def FnDesignNamesDistinctSaid : Prop := fnDesignNamesDistinctRow.holds Tryd.pinned (OpenSpec.ofChange fnDesignNamesDistinctSpec)

/-- ITS FALSE NEIGHBOUR: 'it returns false'. Refute it at one input. -/
def fnDesignNamesDistinctWrong : ChangeSpec := { name := "fnDesignNamesDistinct", vars := ["example.com/coheron/coheron/internal/sim.designNames"], fn := fun _ => fun
  | [d1, d2, g1] => { results := [.lit (.bool false)], args := [d1, d2], vars := [g1] }
  | _ => none }
def FnDesignNamesDistinctWrongFalsely : Prop := fnDesignNamesDistinctRow.holds Tryd.pinned (OpenSpec.ofChange fnDesignNamesDistinctWrong)

end Rows
end Go.Proofs.Qxb6612705aDoor
