/-
  DERIVED. GIVEN WITH THE SEED: THE CARDS: each row of YbulkddtoDoorRows.lean that lists a variable, with what it lists TIED to the program's text (the seventh form; the later family's looks); each row that meets fmt, with fmt's text TOLD by the authors' own Lean function (tested against real Go, not proved from fmt's source: count such statements apart). THE CARD IS WHAT COUNTS. Prove the row's statement (the work); the ties are given (YbulkddtoDoorTie.lean); close each card by the builder's one call (the guide's Derived/Test/ToyasCard.lean, 'card_holds'). Laid BY PROGRAM, IN A SANDBOX (cutbox-door.mjs). By AI agents, Wed Nov 11 2026. No macro, syntax, notation, axiom, sorry.
-/
import Derived.Test.YbulkddtoDoorRows
import GoSem.ClaimSeven
namespace Go.Proofs.YbulkddtoDoor
namespace Rows

/-- THE TIED CARD OF 'granule.LawS5253AMatchesModel'. -/
def lawS5253AMatchesModelCard : Claim7 := { stood := { row := lawS5253AMatchesModelRow, standIns := [], harness := (true, "092102910cc5a4fd3a1792c388fdffb5b7f730a69b0c3a793ea61bdf0061b1da"), looks := false }, kinds := [], alts := [], laidByText := true, laidKinds := [.data], laidTests := true, laidLooks := .later }
def LawS5253AMatchesModelCardSaid : Prop := Claim7.holds Ybad.pinned (.plain (OpenSpec.ofChange lawS5253AMatchesModelSpec)) lawS5253AMatchesModelCard
end Rows
end Go.Proofs.YbulkddtoDoor
