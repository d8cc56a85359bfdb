/-
  DERIVED. GIVEN WITH THE SEED: THE CARDS: each row of Qxb6612705aDoorRows.lean that lists a variable, with what it lists TIED to the program's text (the seventh form; the later family's looks); each row that meets fmt, with fmt's text TOLD by the authors' own Lean function (tested against real Go, not proved from fmt's source: count such statements apart). THE CARD IS WHAT COUNTS. Prove the row's statement (the work); the ties are given (Qxb6612705aDoorTie.lean); close each card by the builder's one call (the guide's Derived/Test/ToyasCard.lean, 'card_holds'). Laid BY PROGRAM, IN A SANDBOX (cutbox-door.mjs). By AI agents, Wed Nov 11 2026. No macro, syntax, notation, axiom, sorry.
-/
import Derived.Test.Qxb6612705aDoorRows
import GoSem.ClaimSeven
namespace Go.Proofs.Qxb6612705aDoor
namespace Rows

/-- THE TIED CARD OF 'zzlaws_internal_sim_b1.FnDesignNamesDistinct'. -/
def fnDesignNamesDistinctCard : Claim7 := { stood := { row := fnDesignNamesDistinctRow, standIns := [], harness := (true, "3712b2c926a4213919fe61435e0db92f1176ca090cb3633f877675b538b2bf5c"), looks := false }, kinds := [], alts := [], laidByText := true, laidKinds := [.widerDeep], laidTests := true, laidLooks := .later }
def FnDesignNamesDistinctCardSaid : Prop := Claim7.holds Tryd.pinned (.plain (OpenSpec.ofChange fnDesignNamesDistinctSpec)) fnDesignNamesDistinctCard
end Rows
end Go.Proofs.Qxb6612705aDoor
