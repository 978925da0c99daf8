/-
  No cell of these rows narrows 'for every input' (looked for: loops, veiled, ifaces, maps, wideKeys, modest, calm, conditions, laid).
  DERIVED. THE GIVEN ROWS OF THIS SEAT. 1 by the template 'for every input the law returns true; each argument reads behind the call as it read before'; 0 by the template 'total and deterministic' (their statements: YbulkddxiTotals.lean).
  GIVEN WITH THE SEED: the statements are not yours to turn. If you find one false, say at which input.
  Laid BY PROGRAM, IN A SANDBOX (cutbox-rows.mjs): the forced cells as the released guide's own fill.sh prints them over the translation 14f3d4ff90a19567… (all of the seat's roots in one cut). By AI agents, Wed Nov 11 2026. No macro, syntax, notation, axiom, sorry.
-/
import Derived.Test.YbulkddxiChecked
import GoSem.Claim
import GoSem.ClaimJoined
import GoSem.ClaimMapViews
import Derived.JoinedTies
import Derived.KernelRfl
namespace Go.Proofs.Ybulkddxi
/- THE CELL 'sum', in the pinned program and in every row, IS THE sha256 OF THE DUMP (.gsa) THAT YbulkddxiProg.lean LOADS. Nothing in Lean hashes anything: it is a label: what it is worth is what the hold of that sum in a sandbox is worth. -/
noncomputable def Yba.pinned : Pinned := { name := "ybulkddxi", sum := "14f3d4ff90a19567cd726b5d0fdc41bad95d7b009772701d6625e38809d46da6", checked := Yba.checked }
namespace Rows
def none {H : Type} : Left H := { results := [], args := [] }

/-- 'store.LawS5260BRejoin': WHATEVER THE INPUT: true; the input reads as it did. -/
def lawS5260BRejoinSpec : ChangeSpec := { name := "lawS5260BRejoin", fn := fun _ => fun
  | [d1, d2] => { results := [.lit (.bool true)], args := [d1, d2] }
  | _ => none }
def lawS5260BRejoinRow : OpenClaim := { program := "ybulkddxi", sum := "14f3d4ff90a19567cd726b5d0fdc41bad95d7b009772701d6625e38809d46da6", func := "example.com/presidium/presidium/store.LawS5260BRejoin", spec := "lawS5260BRejoin", apart := false }
def LawS5260BRejoinSaid : Prop := lawS5260BRejoinRow.holds Yba.pinned (OpenSpec.ofChange lawS5260BRejoinSpec)

/-- ITS FALSE NEIGHBOUR: 'it returns false'. Refute it at one input. -/
def lawS5260BRejoinWrong : ChangeSpec := { name := "lawS5260BRejoin", fn := fun _ => fun
  | [d1, d2] => { results := [.lit (.bool false)], args := [d1, d2] }
  | _ => none }
def LawS5260BRejoinWrongFalsely : Prop := lawS5260BRejoinRow.holds Yba.pinned (OpenSpec.ofChange lawS5260BRejoinWrong)

end Rows
end Go.Proofs.Ybulkddxi
