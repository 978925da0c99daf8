import Derived.Test.YbulkddtoFmtRows
import Derived.WalkKit
import Derived.LaidEql
import Derived.Stop.Asserts
import Derived.Stop.CallBack
import Derived.Stop.IfaceNil
import Derived.RowKitTokens
import Derived.WalkSpells
namespace Go.Proofs.YbulkddtoFmt
open Go.RowKit Go.Extern.Stop Go.Stop Go.Extern

/-! ### CLOSED FACTS: what 'reflectlite.TypeOf(target).Comparable()' gives at such a target -/
theorem Ybaf.isTypeOf (v : Value) (w : World) : (Extern.ReflectliteType.typeOf #[.iface 69 v]).run Ybaf.prog w = .ok (.iface 59 (.agg #[.pointer (some ⟨1, 69, none⟩)])) w := by kernel_rfl
def cmpRow : Array Value → Sem Value := Extern.ReflectliteType.method fun t => do Extern.Rtype.noPackHeld "Comparable" t; pure (.bool (← typeInfo t).comparable)
theorem Ybaf.isComparable (w : World) : (cmpRow #[.agg #[.pointer (some ⟨1, 69, none⟩)]]).run Ybaf.prog w = .ok (.bool true) w := by kernel_rfl
theorem Ybaf.isMethodComparable (v : Value) (w : World) : (Go.method 211 59 v "Comparable").run Ybaf.prog w = .ok (38, v) w := by kernel_rfl
theorem Ybaf.isComp : (Ybaf.prog.info? 69).map (·.comparable) = some true := by kernel_rfl
theorem Ybaf.isSize : (Ybaf.prog.info? 71).map (·.size) = some 1 := by kernel_rfl

/-! ### CLOSED FACTS ON THE METHOD SETS: what errors.is's assertions find -/
theorem Ybaf.noIsE (v : Value) (xT : TypeId) (w : World) : (Instr.typeAssert (.iface 69 v) xT 61 true).run Ybaf.prog w = .ok (.tuple #[.nilIface, .bool false]) w := run_typeAssert_lacksB Ybaf.underlying61 (by kernel_rfl) (by kernel_rfl) v xT w
theorem Ybaf.noUnwrapE (v : Value) (xT : TypeId) (w : World) : (Instr.typeAssert (.iface 69 v) xT 64 true).run Ybaf.prog w = .ok (.tuple #[.nilIface, .bool false]) w := run_typeAssert_lacksB Ybaf.underlying64 (by kernel_rfl) (by kernel_rfl) v xT w
theorem Ybaf.noUnwrapsE (v : Value) (xT : TypeId) (w : World) : (Instr.typeAssert (.iface 69 v) xT 66 true).run Ybaf.prog w = .ok (.tuple #[.nilIface, .bool false]) w := run_typeAssert_lacksB Ybaf.underlying66 (by kernel_rfl) (by kernel_rfl) v xT w
theorem Ybaf.noIsW (v : Value) (xT : TypeId) (w : World) : (Instr.typeAssert (.iface 57 v) xT 61 true).run Ybaf.prog w = .ok (.tuple #[.nilIface, .bool false]) w := run_typeAssert_lacksB Ybaf.underlying61 (by kernel_rfl) (by kernel_rfl) v xT w
theorem Ybaf.hasUnwrapW (v : Value) (xT : TypeId) (w : World) : (Instr.typeAssert (.iface 57 v) xT 64 true).run Ybaf.prog w = .ok (.tuple #[.iface 57 v, .bool true]) w := run_typeAssert_hasB Ybaf.underlying64 (by kernel_rfl) v xT w
theorem Ybaf.methodUnwrap (v : Value) (w : World) : (Go.method 211 57 v "Unwrap").run Ybaf.prog w = .ok (34, v) w := by kernel_rfl

/-- errors.Is(e, x), e a *fmt.wrapError that wraps x itself: one Unwrap, then equal. -/
theorem is_wrap_same (pb po : Nat) (b : Addr) (w : World) (h1 : w.cell? ⟨pb, po + 1, none⟩ = some (.iface 69 (.pointer (some b)))) :
    Calls Ybaf.prog 9 #[.iface 57 (.pointer (some ⟨pb, po, none⟩)), .iface 69 (.pointer (some b))] w fun e w' => e = .returned (.bool true) ∧ w' = w := by
  obtain ⟨i, hi, hcmp⟩ := Option.map_eq_some_iff.1 Ybaf.isComp
  obtain ⟨j, hj, hjs⟩ := Option.map_eq_some_iff.1 Ybaf.isSize
  have h8 := @run_callFunc_extern Ybaf.prog 13 _ Extern.ReflectliteType.typeOf Ybaf.func13 (by kernel_rfl) (by kernel_rfl) (by kernel_rfl) (by kernel_rfl)
  have h32 := @run_callFunc_extern Ybaf.prog 38 _ cmpRow Ybaf.func38 (by kernel_rfl) (by kernel_rfl) (by kernel_rfl) (by kernel_rfl)
  have tT := Ybaf.isTypeOf
  have cT := Ybaf.isComparable
  have mR := Ybaf.isMethodComparable
  have nE := Ybaf.noIsE
  have uE := Ybaf.noUnwrapE
  have vE := Ybaf.noUnwrapsE
  have nW := Ybaf.noIsW
  have uW := Ybaf.hasUnwrapW
  have mU := Ybaf.methodUnwrap
  have heq := run_eql_iface_ptr_same (P := Ybaf.prog) w b Ybaf.underlying44 Ybaf.underlying69 hi hcmp hj
  have hty := run_eql_iface_types (P := Ybaf.prog) 57 69 (.pointer (some ⟨pb, po, none⟩)) (.pointer (some b)) Ybaf.underlying44 (by decide) w
  go_enter Ybaf.func9, Ybaf.ntmps9
  go_wp2
  refine wp_loop_rounds 2 ?_
  rw [rounds_succ]
  go_wp2
  rw [rounds_succ]
  go_wp2
  go_ret
  exact ⟨rfl, rfl⟩


/-! ### fmt.errorf, a plain stop -/
abbrev fmtS : ByteArray := ⟨#[37, 119, 58, 32, 97, 117, 116, 111, 45, 105, 110, 99, 114, 101, 109, 101, 110, 116, 32, 109, 111, 100, 101, 32, 37, 100]⟩
theorem Ybaf.call15 (args : Array Value) (w : World) : (callFunc 15 args).run Ybaf.prog w = ((FmtStop.errorf #[9, 55] #[44] args).run Ybaf.prog w).andThen fun v w' => .ok (.value v) w' :=
  run_callFunc_extern Ybaf.func15 (by kernel_rfl) (by kernel_rfl) (by kernel_rfl) (by kernel_rfl) args w
theorem Ybaf.guard (name : String) (w : World) : (FmtStop.guard name).run Ybaf.prog w = .ok () w := by kernel_rfl
theorem Ybaf.fmt0 : FmtStop.printed? ⟨#[37, 119, 58, 32, 97, 117, 116, 111, 45, 105, 110, 99, 114, 101, 109, 101, 110, 116, 32, 109, 111, 100, 101, 32, 37, 100]⟩ 2 = some [(0, 119, false), (1, 100, false)] := by kernel_rfl
theorem Ybaf.fmt0r (w : World) : (FmtDoors.printed ⟨#[37, 119, 58, 32, 97, 117, 116, 111, 45, 105, 110, 99, 114, 101, 109, 101, 110, 116, 32, 109, 111, 100, 101, 32, 37, 100]⟩ 2).run Ybaf.prog w = .ok [(0, 119, false), (1, 100, false)] w := by kernel_rfl
theorem Ybaf.fmt1 : FmtStop.printed? ⟨#[37, 119, 58, 32, 97, 117, 116, 111, 45, 105, 110, 99, 114, 101, 109, 101, 110, 116, 32, 109, 111, 100, 101, 32, 37, 100]⟩ 0 = some [] := by kernel_rfl
theorem Ybaf.fmt1r (w : World) : (FmtDoors.printed ⟨#[37, 119, 58, 32, 97, 117, 116, 111, 45, 105, 110, 99, 114, 101, 109, 101, 110, 116, 32, 109, 111, 100, 101, 32, 37, 100]⟩ 0).run Ybaf.prog w = .ok [] w := by kernel_rfl
def shape27 : List UInt8 := FmtStop.intCode .u8 :: FmtStop.pack "granule.AutoIncMode".toUTF8.data.toList
theorem Ybaf.op27_100w (name : String) (x : Int) (w : World) : (FmtStop.operand name true 100 false (.iface 27 (.int .u8 x))).run Ybaf.prog w = .ok (shape27, Go.Extern.Stop.digits 8 (x % 2 ^ 64).toNat) w := by kernel_rfl
theorem Ybaf.op27_100 (name : String) (x : Int) (w : World) : (FmtStop.operand name false 100 false (.iface 27 (.int .u8 x))).run Ybaf.prog w = .ok (shape27, Go.Extern.Stop.digits 8 (x % 2 ^ 64).toNat) w := by kernel_rfl
theorem Ybaf.strict27 (name : String) (x : Int) (w : World) : (FmtStop.strict name (.iface 27 (.int .u8 x))).run Ybaf.prog w = .ok (shape27, Go.Extern.Stop.digits 8 (x % 2 ^ 64).toNat) w := by kernel_rfl
theorem Ybaf.ptr69 (w : World) : (FmtStop.ptrTo "errors.errorString").run Ybaf.prog w = .ok 69 w := by kernel_rfl
theorem Ybaf.elem69 (w : World) : (elemOf 69).run Ybaf.prog w = .ok 71 w := by kernel_rfl
theorem Ybaf.isError69' (w : World) : (FmtDoors.textMethod 69 "Error").run Ybaf.prog w = .ok true w := by kernel_rfl
theorem Ybaf.ptr57 (w : World) : (FmtStop.ptrTo "fmt.wrapError").run Ybaf.prog w = .ok 57 w := by kernel_rfl
theorem Ybaf.elem57 (w : World) : (elemOf 57).run Ybaf.prog w = .ok 96 w := by kernel_rfl
theorem Ybaf.isError57' (w : World) : (FmtDoors.textMethod 57 "Error").run Ybaf.prog w = .ok true w := by kernel_rfl
/-- The name of the sentinel's type: a star ahead of the struct's. -/
def errName : String := "".push (Char.ofNat 42) ++ "errors.errorString"
def plain69 : List UInt8 := 14 :: FmtStop.pack errName.toUTF8.data.toList
theorem Ybaf.opPlain69_119w (name : String) (a : Addr) (s : ByteArray) (w : World) (hc : w.cell? a = some (.string s)) :
    (FmtStop.operand name true 119 false (.iface 69 (.pointer (some a)))).run Ybaf.prog w = .ok (plain69, s.data.toList) w := by
  have h1 : (typeStr 69).run Ybaf.prog w = .ok errName w := by kernel_rfl
  have d2 : Ybaf.t69.desc = .pointer 71 := rfl
  have d3 : Ybaf.t71.desc = .named "errors.errorString" 70 := rfl
  simp [FmtStop.operand, h1, d2, d3, run_load, hc, plain69]

attribute [local go_sem] Ybaf.call15 Ybaf.guard Ybaf.fmt0 Ybaf.fmt0r Ybaf.fmt1 Ybaf.fmt1r Ybaf.op27_100w Ybaf.op27_100 Ybaf.strict27 Ybaf.ptr69 Ybaf.elem69 Ybaf.isError69' Ybaf.ptr57 Ybaf.elem57 Ybaf.isError57'

def readingS (x : Int) (s : ByteArray) : List (List UInt8) :=
  [fmtS.data.toList, plain69, s.data.toList, shape27, digits 8 (x % 18446744073709551616).toNat]

theorem errorf_mode (F : Interp) (x : Int) (a : Addr) (s : ByteArray) (blk : Nat) (w : World) (hF : F.answers w.tape)
    (hc0 : w.cell? ⟨blk, 0, none⟩ = some (.iface 69 (.pointer (some a)))) (hc1 : w.cell? ⟨blk, 1, none⟩ = some (.iface 27 (.int .u8 x)))
    (hs : w.cell? a = some (.string s)) :
    Calls Ybaf.prog 12 #[.string fmtS, .slice (some ⟨blk, 0, none⟩) 2 2] w fun e w' =>
      e = .returned (.iface 57 (.pointer (some ⟨w.heap.size, 0, none⟩))) ∧ w' = (w.alloc (.cells #[.string (FmtStop.textOf (F "fmt.errorf" (readingS x s) 0)), .iface 69 (.pointer (some a))] 96)).drew := by
  have hF' := answers_open hF
  have hop := Ybaf.opPlain69_119w "fmt.errorf" a s w hs
  go_enter Ybaf.func12, Ybaf.ntmps12
  go_wp2
  go_ret
  exact ⟨rfl, rfl⟩
end Go.Proofs.YbulkddtoFmt
