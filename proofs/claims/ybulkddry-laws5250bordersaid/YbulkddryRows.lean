/-
  No cell of these rows narrows 'for every input' (looked for: loops, veiled, ifaces, maps, wideKeys, modest, calm, conditions, laid).
  DERIVED. THE GIVEN ROWS OF THIS SEAT. 4 by the template 'for every input the law returns true; each argument reads behind the call as it read before'; 0 by the template 'total and deterministic' (their statements: YbulkddryTotals.lean).
  GIVEN WITH THE SEED: the statements are not yours to turn. If you find one false, say at which input.
  Laid BY PROGRAM, IN A SANDBOX (cutbox-rows.mjs): the forced cells as the released guide's own fill.sh prints them over the translation 4571ac10d2ad14df… (all of the seat's roots in one cut). By AI agents, Wed Nov 11 2026. No macro, syntax, notation, axiom, sorry.
-/
import Derived.Test.YbulkddryChecked
import GoSem.Claim
import GoSem.ClaimJoined
import GoSem.ClaimMapViews
import Derived.JoinedTies
import Derived.KernelRfl
namespace Go.Proofs.Ybulkddry
/- THE CELL 'sum', in the pinned program and in every row, IS THE sha256 OF THE DUMP (.gsa) THAT YbulkddryProg.lean LOADS. Nothing in Lean hashes anything: it is a label: what it is worth is what the hold of that sum in a sandbox is worth. -/
noncomputable def Yba.pinned : Pinned := { name := "ybulkddry", sum := "4571ac10d2ad14df227d1a9ec602e3863fdc9b3e83fba07e95fff6df443d05e3", checked := Yba.checked }
namespace Rows
def none {H : Type} : Left H := { results := [], args := [] }

/-- 'sim.LawS5250BOrder': WHATEVER THE INPUT: true; the input reads as it did. -/
def lawS5250BOrderSpec : ChangeSpec := { name := "lawS5250BOrder", fn := fun _ => fun
  | [d] => { results := [.lit (.bool true)], args := [d] }
  | _ => none }
def lawS5250BOrderRow : OpenClaim := { program := "ybulkddry", sum := "4571ac10d2ad14df227d1a9ec602e3863fdc9b3e83fba07e95fff6df443d05e3", func := "example.com/plumbline/plumbline/sim.LawS5250BOrder", spec := "lawS5250BOrder", apart := false }
def LawS5250BOrderSaid : Prop := lawS5250BOrderRow.holds Yba.pinned (OpenSpec.ofChange lawS5250BOrderSpec)

/-- ITS FALSE NEIGHBOUR: 'it returns false'. Refute it at one input. -/
def lawS5250BOrderWrong : ChangeSpec := { name := "lawS5250BOrder", fn := fun _ => fun
  | [d] => { results := [.lit (.bool false)], args := [d] }
  | _ => none }
def LawS5250BOrderWrongFalsely : Prop := lawS5250BOrderRow.holds Yba.pinned (OpenSpec.ofChange lawS5250BOrderWrong)

/-- 'sim.LawS5250BHeap': WHATEVER THE INPUT: true; the input reads as it did. -/
def lawS5250BHeapSpec : ChangeSpec := { name := "lawS5250BHeap", fn := fun _ => fun
  | [d1, d2] => { results := [.lit (.bool true)], args := [d1, d2] }
  | _ => none }
def lawS5250BHeapRow : OpenClaim := { program := "ybulkddry", sum := "4571ac10d2ad14df227d1a9ec602e3863fdc9b3e83fba07e95fff6df443d05e3", func := "example.com/plumbline/plumbline/sim.LawS5250BHeap", spec := "lawS5250BHeap", apart := false }
def LawS5250BHeapSaid : Prop := lawS5250BHeapRow.holds Yba.pinned (OpenSpec.ofChange lawS5250BHeapSpec)

/-- ITS FALSE NEIGHBOUR: 'it returns false'. Refute it at one input. -/
def lawS5250BHeapWrong : ChangeSpec := { name := "lawS5250BHeap", fn := fun _ => fun
  | [d1, d2] => { results := [.lit (.bool false)], args := [d1, d2] }
  | _ => none }
def LawS5250BHeapWrongFalsely : Prop := lawS5250BHeapRow.holds Yba.pinned (OpenSpec.ofChange lawS5250BHeapWrong)

/-- 'vote.LawS5250CExact': WHATEVER THE INPUT: true; the input reads as it did. -/
def lawS5250CExactSpec : ChangeSpec := { name := "lawS5250CExact", fn := fun _ => fun
  | [d1, d2, d3, d4, d5, d6, d7] => { results := [.lit (.bool true)], args := [d1, d2, d3, d4, d5, d6, d7] }
  | _ => none }
def lawS5250CExactRow : OpenClaim := { program := "ybulkddry", sum := "4571ac10d2ad14df227d1a9ec602e3863fdc9b3e83fba07e95fff6df443d05e3", func := "example.com/plumbline/plumbline/internal/vote.LawS5250CExact", spec := "lawS5250CExact", apart := false }
def LawS5250CExactSaid : Prop := lawS5250CExactRow.holds Yba.pinned (OpenSpec.ofChange lawS5250CExactSpec)

/-- ITS FALSE NEIGHBOUR: 'it returns false'. Refute it at one input. -/
def lawS5250CExactWrong : ChangeSpec := { name := "lawS5250CExact", fn := fun _ => fun
  | [d1, d2, d3, d4, d5, d6, d7] => { results := [.lit (.bool false)], args := [d1, d2, d3, d4, d5, d6, d7] }
  | _ => none }
def LawS5250CExactWrongFalsely : Prop := lawS5250CExactRow.holds Yba.pinned (OpenSpec.ofChange lawS5250CExactWrong)

/-- 'vote.LawS5250CKeeps': WHATEVER THE INPUT: true; the input reads as it did. -/
def lawS5250CKeepsSpec : ChangeSpec := { name := "lawS5250CKeeps", fn := fun _ => fun
  | [d1, d2, d3, d4, d5, d6, d7] => { results := [.lit (.bool true)], args := [d1, d2, d3, d4, d5, d6, d7] }
  | _ => none }
def lawS5250CKeepsRow : OpenClaim := { program := "ybulkddry", sum := "4571ac10d2ad14df227d1a9ec602e3863fdc9b3e83fba07e95fff6df443d05e3", func := "example.com/plumbline/plumbline/internal/vote.LawS5250CKeeps", spec := "lawS5250CKeeps", apart := false }
def LawS5250CKeepsSaid : Prop := lawS5250CKeepsRow.holds Yba.pinned (OpenSpec.ofChange lawS5250CKeepsSpec)

/-- ITS FALSE NEIGHBOUR: 'it returns false'. Refute it at one input. -/
def lawS5250CKeepsWrong : ChangeSpec := { name := "lawS5250CKeeps", fn := fun _ => fun
  | [d1, d2, d3, d4, d5, d6, d7] => { results := [.lit (.bool false)], args := [d1, d2, d3, d4, d5, d6, d7] }
  | _ => none }
def LawS5250CKeepsWrongFalsely : Prop := lawS5250CKeepsRow.holds Yba.pinned (OpenSpec.ofChange lawS5250CKeepsWrong)

end Rows
end Go.Proofs.Ybulkddry
