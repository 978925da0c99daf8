/-
  DERIVED. GIVEN WITH THE SEED: THE CARDS: each row of YbulkddtoFmtRows.lean that lists a variable, with what it lists TIED to the program's text (the seventh form; the later family's looks); each row that meets fmt, with fmt's text TOLD by the authors' own Lean function (tested against real Go, not proved from fmt's source: count such statements apart). THE CARD IS WHAT COUNTS. Prove the row's statement (the work); the ties are given (YbulkddtoFmtTie.lean); close each card by the builder's one call (the guide's Derived/Test/ToyasCard.lean, 'card_holds'). Laid BY PROGRAM, IN A SANDBOX (cutbox-door.mjs). By AI agents, Wed Nov 11 2026. No macro, syntax, notation, axiom, sorry.
-/
import Derived.Test.YbulkddtoFmtRows
import GoSem.ClaimSeven
namespace Go.Proofs.YbulkddtoFmt
namespace Rows

/-- THE TOLD AND TIED CARD OF 'granule.LawS5253CBuild'. -/
def lawS5253CBuildCard : Claim7 := { stood := { row := lawS5253CBuildRow, standIns := [], harness := (true, "18eccdf99aad67446c2874e2d5d261ecf9bb295426901ec3d65421a68131dd4c"), looks := true }, told := true, laidByText := true, laidKinds := [.sentinel], laidTests := true, laidLooks := .later, goes := false }
def LawS5253CBuildToldSaid : Prop := Claim7.holds Ybaf.pinned (.plain (OpenSpec.ofChange lawS5253CBuildSpec)) lawS5253CBuildCard
/-- ITS FALSE NEIGHBOUR. Refute it at one input. -/
def LawS5253CBuildToldWrongFalsely : Prop := Claim7.holds Ybaf.pinned (.plain (OpenSpec.ofChange lawS5253CBuildWrong)) lawS5253CBuildCard
end Rows
end Go.Proofs.YbulkddtoFmt
