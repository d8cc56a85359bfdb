/-
  No cell of these rows narrows 'for every input' (looked for: loops, veiled, ifaces, maps, wideKeys, modest, calm, conditions, laid).
  DERIVED. THE GIVEN ROWS OF THIS SEAT. 1 by the template 'for every input the law returns true; each argument reads behind the call as it read before'; 0 by the template 'total and deterministic' (their statements: Qxb6612445aTotals.lean).
  GIVEN WITH THE SEED: the statements are not yours to turn. If you find one false, say at which input.
  Laid BY PROGRAM, IN A SANDBOX (cutbox-rows.mjs): the forced cells as the released guide's own fill.sh prints them over the translation 61af2b85df9cc14c… (all of the seat's roots in one cut). By AI agents, Wed Nov 11 2026. No macro, syntax, notation, axiom, sorry.
-/
import Derived.Test.Qxb6612445aChecked
import GoSem.Claim
import GoSem.ClaimJoined
import GoSem.ClaimMapViews
import Derived.JoinedTies
import Derived.KernelRfl
namespace Go.Proofs.Qxb6612445a
/- THE CELL 'sum', in the pinned program and in every row, IS THE sha256 OF THE DUMP (.gsa) THAT Qxb6612445aProg.lean LOADS. Nothing in Lean hashes anything: it is a label: what it is worth is what the hold of that sum in a sandbox is worth. -/
noncomputable def Try.pinned : Pinned := { name := "qxb6612445a", sum := "61af2b85df9cc14c24bd48002ca73875aaf6561366d3f1aad3290174df6c238b", checked := Try.checked }
namespace Rows
def none {H : Type} : Left H := { results := [], args := [] }

/-- 'zzlaws_internal_permission_b1.FnKeySameExactlyWhenRoleResourceLetterAgree': WHATEVER THE INPUT: true; the input reads as it did. -/
def fnKeySameExactlyWhenRoleResourceLetterAgreeSpec : ChangeSpec := { name := "fnKeySameExactlyWhenRoleResourceLetterAgree", fn := fun _ => fun
  | [d1, d2, d3, d4, d5, d6, d7, d8, d9, d10] => { results := [.lit (.bool true)], args := [d1, d2, d3, d4, d5, d6, d7, d8, d9, d10] }
  | _ => none }
def fnKeySameExactlyWhenRoleResourceLetterAgreeRow : OpenClaim := { program := "qxb6612445a", sum := "61af2b85df9cc14c24bd48002ca73875aaf6561366d3f1aad3290174df6c238b", func := "example.com/idhini/idhini/zzlaws_internal_permission_b1.FnKeySameExactlyWhenRoleResourceLetterAgree", spec := "fnKeySameExactlyWhenRoleResourceLetterAgree", apart := false }
def FnKeySameExactlyWhenRoleResourceLetterAgreeSaid : Prop := fnKeySameExactlyWhenRoleResourceLetterAgreeRow.holds Try.pinned (OpenSpec.ofChange fnKeySameExactlyWhenRoleResourceLetterAgreeSpec)

/-- ITS FALSE NEIGHBOUR: 'it returns false'. Refute it at one input. -/
def fnKeySameExactlyWhenRoleResourceLetterAgreeWrong : ChangeSpec := { name := "fnKeySameExactlyWhenRoleResourceLetterAgree", fn := fun _ => fun
  | [d1, d2, d3, d4, d5, d6, d7, d8, d9, d10] => { results := [.lit (.bool false)], args := [d1, d2, d3, d4, d5, d6, d7, d8, d9, d10] }
  | _ => none }
def FnKeySameExactlyWhenRoleResourceLetterAgreeWrongFalsely : Prop := fnKeySameExactlyWhenRoleResourceLetterAgreeRow.holds Try.pinned (OpenSpec.ofChange fnKeySameExactlyWhenRoleResourceLetterAgreeWrong)

end Rows
end Go.Proofs.Qxb6612445a
