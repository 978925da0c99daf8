/-
  No cell of these rows narrows 'for every input' (looked for: loops, veiled, ifaces, maps, wideKeys, modest, calm, conditions, laid).
  DERIVED. THE GIVEN ROWS OF THIS SEAT. 4 by the template 'for every input the law returns true; each argument reads behind the call as it read before'; 0 by the template 'total and deterministic' (their statements: YbulkddrkTotals.lean).
  GIVEN WITH THE SEED: the statements are not yours to turn. If you find one false, say at which input.
  Laid BY PROGRAM, IN A SANDBOX (cutbox-rows.mjs): the forced cells as the released guide's own fill.sh prints them over the translation ace20cc57be51030… (all of the seat's roots in one cut). By AI agents, Wed Nov 11 2026. No macro, syntax, notation, axiom, sorry.
-/
import Derived.Test.YbulkddrkChecked
import GoSem.Claim
import GoSem.ClaimJoined
import GoSem.ClaimMapViews
import Derived.JoinedTies
import Derived.KernelRfl
namespace Go.Proofs.Ybulkddrk
/- THE CELL 'sum', in the pinned program and in every row, IS THE sha256 OF THE DUMP (.gsa) THAT YbulkddrkProg.lean LOADS. Nothing in Lean hashes anything: it is a label: what it is worth is what the hold of that sum in a sandbox is worth. -/
noncomputable def Yba.pinned : Pinned := { name := "ybulkddrk", sum := "ace20cc57be51030ba0eb726f92baa7a9b642985e12577c6cefdd75a5d0e7257", checked := Yba.checked }
namespace Rows
def none {H : Type} : Left H := { results := [], args := [] }

/-- 'policy-decider.LawS5249BOneChange': WHATEVER THE INPUT: true; the input reads as it did. -/
def lawS5249BOneChangeSpec : ChangeSpec := { name := "lawS5249BOneChange", fn := fun _ => fun
  | [d1, d2, d3, d4, d5, d6] => { results := [.lit (.bool true)], args := [d1, d2, d3, d4, d5, d6] }
  | _ => none }
def lawS5249BOneChangeRow : OpenClaim := { program := "ybulkddrk", sum := "ace20cc57be51030ba0eb726f92baa7a9b642985e12577c6cefdd75a5d0e7257", func := "example.com/policy-decider/policy-decider.LawS5249BOneChange", spec := "lawS5249BOneChange", inPlace := ["sync/atomic.StorePointer", "(*internal/sync.Mutex).Lock", "internal/race.Disable", "sync/atomic.CompareAndSwapInt32", "internal/race.Enable", "internal/race.Acquire", "(*internal/sync.Mutex).lockSlow", "internal/sync.runtime_canSpin", "internal/sync.runtime_doSpin", "internal/sync.throw", "internal/sync.runtime_nanotime", "internal/sync.runtime_SemacquireMutex", "sync/atomic.AddInt32", "(*internal/sync.Mutex).Unlock", "internal/race.ReleaseMerge", "(*internal/sync.Mutex).unlockSlow", "internal/sync.fatal", "internal/sync.runtime_Semrelease", "sync/atomic.LoadPointer", "(*internal/sync.Mutex).TryLock"], unfollowed := true, recurses := true, plainKeys := false, apart := false }
def LawS5249BOneChangeSaid : Prop := lawS5249BOneChangeRow.holds Yba.pinned (OpenSpec.ofChange lawS5249BOneChangeSpec)

/-- ITS FALSE NEIGHBOUR: 'it returns false'. Refute it at one input. -/
def lawS5249BOneChangeWrong : ChangeSpec := { name := "lawS5249BOneChange", fn := fun _ => fun
  | [d1, d2, d3, d4, d5, d6] => { results := [.lit (.bool false)], args := [d1, d2, d3, d4, d5, d6] }
  | _ => none }
def LawS5249BOneChangeWrongFalsely : Prop := lawS5249BOneChangeRow.holds Yba.pinned (OpenSpec.ofChange lawS5249BOneChangeWrong)

/-- 'policy-decider.LawS5249BSequence': WHATEVER THE INPUT: true; the input reads as it did. -/
def lawS5249BSequenceSpec : ChangeSpec := { name := "lawS5249BSequence", fn := fun _ => fun
  | [d] => { results := [.lit (.bool true)], args := [d] }
  | _ => none }
def lawS5249BSequenceRow : OpenClaim := { program := "ybulkddrk", sum := "ace20cc57be51030ba0eb726f92baa7a9b642985e12577c6cefdd75a5d0e7257", func := "example.com/policy-decider/policy-decider.LawS5249BSequence", spec := "lawS5249BSequence", inPlace := ["(*internal/sync.Mutex).Lock", "internal/race.Disable", "sync/atomic.CompareAndSwapInt32", "internal/race.Enable", "internal/race.Acquire", "(*internal/sync.Mutex).lockSlow", "internal/sync.runtime_canSpin", "internal/sync.runtime_doSpin", "internal/sync.throw", "internal/sync.runtime_nanotime", "internal/sync.runtime_SemacquireMutex", "sync/atomic.AddInt32", "(*internal/sync.Mutex).Unlock", "internal/race.ReleaseMerge", "(*internal/sync.Mutex).unlockSlow", "internal/sync.fatal", "internal/sync.runtime_Semrelease", "sync/atomic.LoadPointer", "sync/atomic.StorePointer"], unfollowed := true, recurses := true, plainKeys := false, apart := false }
def LawS5249BSequenceSaid : Prop := lawS5249BSequenceRow.holds Yba.pinned (OpenSpec.ofChange lawS5249BSequenceSpec)

/-- ITS FALSE NEIGHBOUR: 'it returns false'. Refute it at one input. -/
def lawS5249BSequenceWrong : ChangeSpec := { name := "lawS5249BSequence", fn := fun _ => fun
  | [d] => { results := [.lit (.bool false)], args := [d] }
  | _ => none }
def LawS5249BSequenceWrongFalsely : Prop := lawS5249BSequenceRow.holds Yba.pinned (OpenSpec.ofChange lawS5249BSequenceWrong)

/-- 'policy-decider.LawS5249CMapsKeys': WHATEVER THE INPUT: true; the input reads as it did. -/
def lawS5249CMapsKeysSpec : ChangeSpec := { name := "lawS5249CMapsKeys", fn := fun _ => fun
  | [d] => { results := [.lit (.bool true)], args := [d] }
  | _ => none }
def lawS5249CMapsKeysRow : OpenClaim := { program := "ybulkddrk", sum := "ace20cc57be51030ba0eb726f92baa7a9b642985e12577c6cefdd75a5d0e7257", func := "example.com/policy-decider/policy-decider.LawS5249CMapsKeys", spec := "lawS5249CMapsKeys", inPlace := ["internal/bytealg.IndexByteString"], recurses := true, plainKeys := false, apart := false }
def LawS5249CMapsKeysSaid : Prop := lawS5249CMapsKeysRow.holds Yba.pinned (OpenSpec.ofChange lawS5249CMapsKeysSpec)

/-- ITS FALSE NEIGHBOUR: 'it returns false'. Refute it at one input. -/
def lawS5249CMapsKeysWrong : ChangeSpec := { name := "lawS5249CMapsKeys", fn := fun _ => fun
  | [d] => { results := [.lit (.bool false)], args := [d] }
  | _ => none }
def LawS5249CMapsKeysWrongFalsely : Prop := lawS5249CMapsKeysRow.holds Yba.pinned (OpenSpec.ofChange lawS5249CMapsKeysWrong)

/-- 'policy-decider.LawS5249CPersistent': WHATEVER THE INPUT: true; the input reads as it did. -/
def lawS5249CPersistentSpec : ChangeSpec := { name := "lawS5249CPersistent", fn := fun _ => fun
  | [d1, d2] => { results := [.lit (.bool true)], args := [d1, d2] }
  | _ => none }
def lawS5249CPersistentRow : OpenClaim := { program := "ybulkddrk", sum := "ace20cc57be51030ba0eb726f92baa7a9b642985e12577c6cefdd75a5d0e7257", func := "example.com/policy-decider/policy-decider.LawS5249CPersistent", spec := "lawS5249CPersistent", inPlace := ["internal/bytealg.IndexByteString"], recurses := true, plainKeys := false, apart := false }
def LawS5249CPersistentSaid : Prop := lawS5249CPersistentRow.holds Yba.pinned (OpenSpec.ofChange lawS5249CPersistentSpec)

/-- ITS FALSE NEIGHBOUR: 'it returns false'. Refute it at one input. -/
def lawS5249CPersistentWrong : ChangeSpec := { name := "lawS5249CPersistent", fn := fun _ => fun
  | [d1, d2] => { results := [.lit (.bool false)], args := [d1, d2] }
  | _ => none }
def LawS5249CPersistentWrongFalsely : Prop := lawS5249CPersistentRow.holds Yba.pinned (OpenSpec.ofChange lawS5249CPersistentWrong)

end Rows
end Go.Proofs.Ybulkddrk
