import Derived.Test.YbulkddtoDoorBegin
import Derived.LaidEqlPtr
import Derived.ChangeKeysEq
import Derived.Laws.Pointers
namespace Go.Proofs.YbulkddtoDoor
open Go.RowKit
set_option linter.unusedVariables false

theorem zero59 (w : World) : (zeroValue 59).run Ybad.prog w = .ok (.agg #[.pointer none, .pointer none, .nilIface, .pointer none, .int .i32 0, .int .i32 0, .int .i32 0, .int .i32 0, .int .i32 0, .int .u8 0, .int .u8 0, .int .u16 0, .bool false, .bool false, .bool false, .pointer none, .pointer none, .bool false, .pointer none, .bool false, .int .u8 0, .int .u8 0, .int .u16 0, .bool false, .bool false, .bool false, .pointer none, .pointer none, .bool false, .pointer none, .bool false, .int .u8 0, .int .u8 0, .int .u16 0, .bool false, .bool false, .bool false, .pointer none, .pointer none, .bool false, .pointer none, .bool false, .int .u8 0, .int .u8 0, .int .u16 0, .bool false, .bool false, .bool false, .pointer none, .pointer none, .bool false, .pointer none, .bool false, .int .u8 0, .int .u8 0, .int .u16 0, .bool false, .bool false, .bool false, .pointer none, .pointer none, .bool false, .pointer none, .bool false, .int .i64 0, .pointer none]) w := by kernel_rfl
theorem eq41 (w : World) : (Op.equalIn 9999 41 (.pointer none) (.pointer none)).run Ybad.prog w = .ok true w := by kernel_rfl
theorem same_ptr {tp te : TypeId} (p : Option Addr) (w : World) (hp : Ybad.prog.underlying tp = some (.pointer te)) (hte : (Ybad.prog.info? te).isSome = true) : (Op.equal tp (.pointer p) (.pointer p)).run Ybad.prog w = .ok true w := by
  obtain ⟨j, hj⟩ := Option.isSome_iff_exists.1 hte
  have h : ∀ d : Nat, (Op.equalIn (d + 1) tp (.pointer p) (.pointer p)).run Ybad.prog w = .ok true w := fun d => by
    cases p with
    | none => simp [Op.equalIn, run_underlying hp]
    | some a => simp [Op.equalIn, run_underlying hp, sizeOf, typeInfo, hj, run_sameAddr_same]
  exact h 9999
theorem neq28 (p : Option Addr) (w : World) : (binOp .neq 28 (.pointer p) (.pointer p)).run Ybad.prog w = .ok (.bool false) w := by
  simp only [binOp]; simp [same_ptr p w Ybad.underlying28 (by kernel_rfl)]
theorem neq33 (p : Option Addr) (w : World) : (binOp .neq 33 (.pointer p) (.pointer p)).run Ybad.prog w = .ok (.bool false) w := by
  simp only [binOp]; simp [same_ptr p w Ybad.underlying33 (by kernel_rfl)]
theorem eql33 (p : Option Addr) (w : World) : (binOp .eql 33 (.pointer p) (.pointer p)).run Ybad.prog w = .ok (.bool true) w := by
  simp only [binOp]; simp [same_ptr p w Ybad.underlying33 (by kernel_rfl)]
theorem eqI (z : Int) (w : World) (d : Nat) : (Op.equalIn (d + 1) 21 (.int .i32 z) (.int .i32 z)).run Ybad.prog w = .ok true w := by
  simp [Op.equalIn, run_underlying Ybad.underlying21]
theorem eq34 (c : Nat → Int) (w : World) : (Op.equalIn 10000 34 (.agg (cells5 c)) (.agg (cells5 c))).run Ybad.prog w = .ok true w := by
  obtain ⟨i, hi⟩ := Option.isSome_iff_exists.1 (show (Ybad.prog.info? 21).isSome = true by kernel_rfl)
  have p0 : (part 21 (cells5 c) (0 * 1)).run Ybad.prog w = .ok (.int .i32 (c 0)) w := by kernel_rfl
  have p1 : (part 21 (cells5 c) (1 * 1)).run Ybad.prog w = .ok (.int .i32 (c 1)) w := by kernel_rfl
  have p2 : (part 21 (cells5 c) (2 * 1)).run Ybad.prog w = .ok (.int .i32 (c 2)) w := by kernel_rfl
  have p3 : (part 21 (cells5 c) (3 * 1)).run Ybad.prog w = .ok (.int .i32 (c 3)) w := by kernel_rfl
  have p4 : (part 21 (cells5 c) (4 * 1)).run Ybad.prog w = .ok (.int .i32 (c 4)) w := by kernel_rfl
  rw [run_equalIn_array w 9999 _ _ Ybad.underlying34 hi, show Ybad.prog.cellsOf 21 = 1 by kernel_rfl, show List.range 5 = [0, 1, 2, 3, 4] from rfl]
  have e := fun z => eqI z w 9998
  simp only [Op.eqItems, Sem.run_bind, p0, p1, p2, p3, p4, Result.andThen_ok, e, Bool.not_true, Bool.false_eq_true, if_false, Sem.run_pure]
abbrev queueC (g wt : Nat → Int) : Array Value := #[.int .u8 0, .int .u8 0, .int .u64 0, .pointer none, .pointer none, .int .i32 (g 0), .int .i32 (g 1), .int .i32 (g 2), .int .i32 (g 3), .int .i32 (g 4), .int .i32 (wt 0), .int .i32 (wt 1), .int .i32 (wt 2), .int .i32 (wt 3), .int .i32 (wt 4), .int .i32 0, .int .u64 0, .pointer none, .bool false, .bool false, .pointer none, .pointer none, .int .u8 0, .int .u8 0, .int .u8 0, .int .u8 0, .int .u8 0, .int .u8 0, .int .u8 0, .int .u8 0]
abbrev lockC (pv : Option Addr) : Array Value := #[.int .u8 0, .int .u8 0, .int .u16 0, .bool false, .bool false, .int .u64 0, .int .u64 0, .pointer none, .pointer none, .int .u64 0, .string ⟨#[]⟩, .slice none 0 0, .chan none, .nilIface, .pointer pv, .pointer none, .pointer none]
abbrev passC (gr : Nat → Int) (Q L : Nat) : Array Value := #[.pointer (some ⟨Q, 0, none⟩), .pointer none, .nilIface, .pointer (some ⟨L, 0, none⟩), .int .i32 (gr 0), .int .i32 (gr 1), .int .i32 (gr 2), .int .i32 (gr 3), .int .i32 (gr 4), .int .u8 0, .int .u8 0, .int .u16 0, .bool false, .bool false, .bool false, .pointer none, .pointer none, .bool false, .pointer none, .bool false, .int .u8 0, .int .u8 0, .int .u16 0, .bool false, .bool false, .bool false, .pointer none, .pointer none, .bool false, .pointer none, .bool false, .int .u8 0, .int .u8 0, .int .u16 0, .bool false, .bool false, .bool false, .pointer none, .pointer none, .bool false, .pointer none, .bool false, .int .u8 0, .int .u8 0, .int .u16 0, .bool false, .bool false, .bool false, .pointer none, .pointer none, .bool false, .pointer none, .bool false, .int .u8 0, .int .u8 0, .int .u16 0, .bool false, .bool false, .bool false, .pointer none, .pointer none, .bool false, .pointer none, .bool false, .int .i64 0, .pointer none]
end Go.Proofs.YbulkddtoDoor
