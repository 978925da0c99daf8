/-
  NARROWER THAN 'FOR EVERY INPUT', by the rows' own cells (each row's printed sentence says how): LawS5253CBuild: ifaces, laid.
  DERIVED. THE GIVEN ROWS OF THIS SEAT. 1 by the template 'for every input the law returns true; each argument reads behind the call as it read before'; 0 by the template 'total and deterministic' (their statements: YbulkddtoFmtTotals.lean).
  GIVEN WITH THE SEED: the statements are not yours to turn. If you find one false, say at which input.
  Laid BY PROGRAM, IN A SANDBOX (cutbox-rows.mjs): the forced cells as the released guide's own fill.sh prints them over the translation d71a80a84a6e8700… (all of the seat's roots in one cut). By AI agents, Wed Nov 11 2026. No macro, syntax, notation, axiom, sorry.
-/
import Derived.Test.YbulkddtoFmtChecked
import GoSem.Claim
import GoSem.ClaimJoined
import GoSem.ClaimMapViews
import Derived.JoinedTies
import Derived.KernelRfl
namespace Go.Proofs.YbulkddtoFmt
/- THE CELL 'sum', in the pinned program and in every row, IS THE sha256 OF THE DUMP (.gsa) THAT YbulkddtoFmtProg.lean LOADS. Nothing in Lean hashes anything: it is a label: what it is worth is what the hold of that sum in a sandbox is worth. -/
noncomputable def Ybaf.pinned : Pinned := { name := "ybulkddtofmt", sum := "d71a80a84a6e8700af2b798acf952420c6393db3bb02c32f98c8574b5d7a409e", checked := Ybaf.checked }
namespace Rows
def none {H : Type} : Left H := { results := [], args := [] }

/- WHAT THE LISTED PACKAGE-LEVEL VARIABLES READ AS WHEN THE CALL BEGINS. Each datum BY PROGRAM (the guide's laid-datum.mjs) off the statement by which the dump's own 'gosem.cut.vars' lays the variable. In a bare row this is a premise. The card (YbulkddtoFmtCards.lean) ties it to the program's text. -/
def laid_example_com_granule_granule_ErrInvalidMode {H : Type} : DataW H := .iface "*errors.errorString" (.ptr (.agg [.lit (.string [103, 114, 97, 110, 117, 108, 101, 58, 32, 105, 110, 118, 97, 108, 105, 100, 32, 108, 111, 99, 107, 32, 109, 111, 100, 101])]))

/-- 'granule.LawS5253CBuild': WHATEVER THE INPUT: true; the input reads as it did. -/
def lawS5253CBuildSpec : ChangeSpec := { name := "lawS5253CBuild", vars := ["example.com/granule/granule.ErrInvalidMode"], fn := fun _ => fun
  | [d1, d2, g1] => { results := [.lit (.bool true)], args := [d1, d2], vars := [g1] }
  | _ => none }
def lawS5253CBuildRow : OpenClaim := { program := "ybulkddtofmt", sum := "d71a80a84a6e8700af2b798acf952420c6393db3bb02c32f98c8574b5d7a409e", func := "example.com/granule/granule.LawS5253CBuild", spec := "lawS5253CBuild", stops := ["fmt.errorf"], inPlace := ["fmt.errorf", "internal/reflectlite.TypeOf"], unfollowed := true, recurses := true, named := ["example.com/granule/granule.ErrInvalidMode"], ifaces := true, apart := false, laid := [("example.com/granule/granule.ErrInvalidMode", laid_example_com_granule_granule_ErrInvalidMode)] }
/-- NO THEOREM (fmt's text is open here; it may be false): for the released tool's asking of the row's closed facts alone. THE STATEMENT IS 'LawS5253CBuildToldSaid' (YbulkddtoFmtCards.lean). -/
def LawS5253CBuildFormAsk : Prop := lawS5253CBuildRow.holds Ybaf.pinned (OpenSpec.ofChange lawS5253CBuildSpec)

/-- ITS FALSE NEIGHBOUR: 'it returns false'. Refute it at one input. -/
def lawS5253CBuildWrong : ChangeSpec := { name := "lawS5253CBuild", vars := ["example.com/granule/granule.ErrInvalidMode"], fn := fun _ => fun
  | [d1, d2, g1] => { results := [.lit (.bool false)], args := [d1, d2], vars := [g1] }
  | _ => none }
def LawS5253CBuildWrongFormAsk : Prop := lawS5253CBuildRow.holds Ybaf.pinned (OpenSpec.ofChange lawS5253CBuildWrong)

end Rows
end Go.Proofs.YbulkddtoFmt
