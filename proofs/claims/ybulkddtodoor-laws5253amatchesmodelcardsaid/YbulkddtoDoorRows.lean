/-
  NARROWER THAN 'FOR EVERY INPUT', by the rows' own cells (each row's printed sentence says how): LawS5253AMatchesModel: laid.
  DERIVED. THE GIVEN ROWS OF THIS SEAT. 1 by the template 'for every input the law returns true; each argument reads behind the call as it read before'; 0 by the template 'total and deterministic' (their statements: YbulkddtoDoorTotals.lean).
  GIVEN WITH THE SEED: the statements are not yours to turn. If you find one false, say at which input.
  Laid BY PROGRAM, IN A SANDBOX (cutbox-rows.mjs): the forced cells as the released guide's own fill.sh prints them over the translation e10ff05d3e92947d… (all of the seat's roots in one cut). By AI agents, Wed Nov 11 2026. No macro, syntax, notation, axiom, sorry.
-/
import Derived.Test.YbulkddtoDoorChecked
import GoSem.Claim
import GoSem.ClaimJoined
import GoSem.ClaimMapViews
import Derived.JoinedTies
import Derived.KernelRfl
namespace Go.Proofs.YbulkddtoDoor
/- THE CELL 'sum', in the pinned program and in every row, IS THE sha256 OF THE DUMP (.gsa) THAT YbulkddtoDoorProg.lean LOADS. Nothing in Lean hashes anything: it is a label: what it is worth is what the hold of that sum in a sandbox is worth. -/
noncomputable def Ybad.pinned : Pinned := { name := "ybulkddtodoor", sum := "e10ff05d3e92947ddefbf1405c265de35c84336e02f5e35973c6bab875ea4dfc", checked := Ybad.checked }
namespace Rows
def none {H : Type} : Left H := { results := [], args := [] }

/- WHAT THE LISTED PACKAGE-LEVEL VARIABLES READ AS WHEN THE CALL BEGINS. Each datum BY PROGRAM (the guide's laid-datum.mjs) off the statement by which the dump's own 'gosem.cut.vars' lays the variable. In a bare row this is a premise. The card (YbulkddtoDoorCards.lean) ties it to the program's text. -/
def laid_example_com_granule_granule_modeConflict {H : Type} : DataW H := .agg [.agg [.lit (.bool false), .lit (.bool false), .lit (.bool false), .lit (.bool true), .lit (.bool false)], .agg [.lit (.bool false), .lit (.bool false), .lit (.bool true), .lit (.bool true), .lit (.bool false)], .agg [.lit (.bool false), .lit (.bool true), .lit (.bool false), .lit (.bool true), .lit (.bool true)], .agg [.lit (.bool true), .lit (.bool true), .lit (.bool true), .lit (.bool true), .lit (.bool true)], .agg [.lit (.bool false), .lit (.bool false), .lit (.bool true), .lit (.bool true), .lit (.bool true)]]

/-- 'granule.LawS5253AMatchesModel': WHATEVER THE INPUT: true; the input reads as it did. -/
def lawS5253AMatchesModelSpec : ChangeSpec := { name := "lawS5253AMatchesModel", vars := ["example.com/granule/granule.modeConflict"], fn := fun _ => fun
  | [d1, d2, d3, d4, d5, d6, d7, g1] => { results := [.lit (.bool true)], args := [d1, d2, d3, d4, d5, d6, d7], vars := [g1] }
  | _ => none }
def lawS5253AMatchesModelRow : OpenClaim := { program := "ybulkddtodoor", sum := "e10ff05d3e92947ddefbf1405c265de35c84336e02f5e35973c6bab875ea4dfc", func := "example.com/granule/granule.LawS5253AMatchesModel", spec := "lawS5253AMatchesModel", named := ["example.com/granule/granule.modeConflict"], plainKeys := false, apart := false, laid := [("example.com/granule/granule.modeConflict", laid_example_com_granule_granule_modeConflict)] }
def LawS5253AMatchesModelSaid : Prop := lawS5253AMatchesModelRow.holds Ybad.pinned (OpenSpec.ofChange lawS5253AMatchesModelSpec)

/-- ITS FALSE NEIGHBOUR: 'it returns false'. Refute it at one input. -/
def lawS5253AMatchesModelWrong : ChangeSpec := { name := "lawS5253AMatchesModel", vars := ["example.com/granule/granule.modeConflict"], fn := fun _ => fun
  | [d1, d2, d3, d4, d5, d6, d7, g1] => { results := [.lit (.bool false)], args := [d1, d2, d3, d4, d5, d6, d7], vars := [g1] }
  | _ => none }
def LawS5253AMatchesModelWrongFalsely : Prop := lawS5253AMatchesModelRow.holds Ybad.pinned (OpenSpec.ofChange lawS5253AMatchesModelWrong)

end Rows
end Go.Proofs.YbulkddtoDoor
