import Derived.Test.YbulkddryRows
import Derived.WalkKit
import Derived.Below
import Derived.BigRegion
import Derived.BigQuiet
import Derived.Deep.QuietTactic
import Derived.Deep.OwnRows
import Derived.Handy
namespace Go.Proofs.Ybulkddry
open Go.RowKit

/-- What a row of tells holds: element i's attempt, result, 'taken', times. -/
structure Tells where
  att : Nat → Int
  res : Nat → Int
  tak : Nat → Bool
  tim : Nat → Int

/-- Cell j of a row of tells. -/
def Tells.cell (t : Tells) (j : Nat) : Value :=
  if j % 4 = 0 then .int .u64 (t.att (j / 4)) else if j % 4 = 1 then .int .i64 (t.res (j / 4)) else if j % 4 = 2 then .bool (t.tak (j / 4)) else .int .i64 (t.tim (j / 4))

theorem Tells.cell0 (t : Tells) (k : Nat) : t.cell (k * 4) = .int .u64 (t.att k) := by
  have h1 : k * 4 % 4 = 0 := by omega
  have h2 : k * 4 / 4 = k := by omega
  simp [Tells.cell, h1, h2]
theorem Tells.cell1 (t : Tells) (k : Nat) : t.cell (k * 4 + 1) = .int .i64 (t.res k) := by
  have h1 : (k * 4 + 1) % 4 = 1 := by omega
  have h2 : (k * 4 + 1) / 4 = k := by omega
  simp [Tells.cell, h1, h2]
theorem Tells.cell2 (t : Tells) (k : Nat) : t.cell (k * 4 + 2) = .bool (t.tak k) := by
  have h1 : (k * 4 + 2) % 4 = 2 := by omega
  have h2 : (k * 4 + 2) / 4 = k := by omega
  simp [Tells.cell, h1, h2]
theorem Tells.cell3 (t : Tells) (k : Nat) : t.cell (k * 4 + 3) = .int .i64 (t.tim k) := by
  have h1 : (k * 4 + 3) % 4 = 3 := by omega
  have h2 : (k * 4 + 3) / 4 = k := by omega
  simp [Tells.cell, h1, h2]

def zeros : Tells := ⟨fun _ => 0, fun _ => 0, fun _ => false, fun _ => 0⟩
/-- The first k elements are t's, the others zero. -/
def Tells.upto (t : Tells) (k : Nat) (j : Nat) : Value := if j < k * 4 then t.cell j else zeros.cell j

theorem make59 (n : Nat) (hn : n ≤ 1024) (w : World) :
    (Instr.makeSlice 52 (.int .i64 (n : Int)) (.int .i64 (n : Int))).run Yba.prog w = .ok (.slice (some ⟨w.heap.size, 0, none⟩) n n) (w.alloc (.cells (madeCells #[.int .u64 0, .int .i64 0, .bool false, .int .i64 0] (n * 4)) 59)) := by
  have hinfo : (Yba.prog.info? 59).map (fun i => (i.zero, i.size, i.bytes)) = some (some (.agg #[.int .u64 0, .int .i64 0, .bool false, .int .i64 0]), 4, 32) := by kernel_rfl
  obtain ⟨i, hi, hzz⟩ := Option.map_eq_some_iff.1 hinfo
  simp only [Prod.mk.injEq] at hzz
  obtain ⟨hz, hs, hb⟩ := hzz
  have := run_make (P := Yba.prog) w 52 59 i _ Yba.underlying52 hi hz .i64 .i64 n n (by omega) (Int.le_refl _) (by rw [hb]; omega) (by omega)
  rw [hs] at this
  simp only [Int.toNat_natCast] at this
  exact this

theorem made59 (n : Nat) (w : World) : (w.alloc (.cells (madeCells #[.int .u64 0, .int .i64 0, .bool false, .int .i64 0] (n * 4)) 59)).rowIs w.heap.size 59 (n * 4) zeros.cell := by
  refine ⟨_, Go.Deep.blk_alloc_new _ _, size_madeCells _ _, fun i hi => ?_⟩
  have h : i % 4 = 0 ∨ i % 4 = 1 ∨ i % 4 = 2 ∨ i % 4 = 3 := by omega
  rcases h with h | h | h | h <;> simp [madeCells, hi, zeros, Tells.cell, h]

theorem row_step {wr : World} {N n k : Nat} {T : Tells} (hr : wr.rowIs N 59 (n * 4) (T.upto k)) :
    ((((wr.setCell ⟨N, k * 4, none⟩ (.int .u64 (T.att k))).setCell ⟨N, k * 4 + 1, none⟩ (.int .i64 (T.res k))).setCell ⟨N, k * 4 + 2, none⟩ (.bool (T.tak k))).setCell ⟨N, k * 4 + 3, none⟩ (.int .i64 (T.tim k))).rowIs N 59 (n * 4) (T.upto (k + 1)) := by
  refine ((((hr.set _ _).set _ _).set _ _).set _ _).congr fun i _ => ?_
  by_cases h3 : i = k * 4 + 3
  · subst h3; rw [if_pos rfl, Tells.upto, if_pos (by omega), T.cell3]
  by_cases h2 : i = k * 4 + 2
  · subst h2; rw [if_neg h3, if_pos rfl, Tells.upto, if_pos (by omega), T.cell2]
  by_cases h1 : i = k * 4 + 1
  · subst h1; rw [if_neg h3, if_neg h2, if_pos rfl, Tells.upto, if_pos (by omega), T.cell1]
  by_cases h0 : i = k * 4
  · subst h0; rw [if_neg h3, if_neg h2, if_neg h1, if_pos rfl, Tells.upto, if_pos (by omega), T.cell0]
  rw [if_neg h3, if_neg h2, if_neg h1, if_neg h0]
  unfold Tells.upto
  by_cases hk : i < k * 4
  · rw [if_pos hk, if_pos (by omega)]
  · rw [if_neg hk, if_neg (by omega)]

/-- The slot that 'build' lays. -/
abbrev slot (decided : Bool) (waited patience capacity t attempt : Int) (n : Nat) (TS : Nat) : Array Value :=
  #[.int .i64 n, .int .i64 t, .int .i64 0, .nilIface, .int .u64 0, .int .i64 capacity, .int .i64 patience, .nilFunc, .nilIface, .int .u64 attempt, .int .i64 waited, .pointer none, .int .u64 0, .int .i64 0, .int .i64 0, .bool false, .bool decided, .int .i64 0, .bool false, .bool false, .int .i64 0, .slice (some ⟨TS, 0, none⟩) n n]

theorem build_any (a0 : Option Addr) (n cap : Nat) (T : Tells) (decided : Bool) (waited patience capacity t attempt : Int) (w : World) (hn : n ≤ 1024)
    (hrow : ∀ k, k < n → ∃ b off, a0 = some ⟨b, off, none⟩ ∧ b < w.heap.size ∧ ∀ j, j < 4 → w.cell? ⟨b, off + (k * 4 + j), none⟩ = some (T.cell (k * 4 + j)))
    (hw0 : -2147483648 ≤ waited) (hw1 : waited ≤ 2147483647) (hp0 : -2147483648 ≤ patience) (hp1 : patience ≤ 2147483647) :
    Calls Yba.prog 11 #[.bool decided, .int .i32 waited, .int .i32 patience, .int .i64 capacity, .int .i64 t, .int .u64 attempt, .slice a0 n cap] w fun e w' =>
      ∃ S, e = .returned (.pointer (some ⟨S, 0, none⟩)) ∧ w'.heap[S]? = some (.cells (slot decided waited patience capacity t attempt n w.heap.size) 54) ∧ w'.rowIs w.heap.size 59 (n * 4) T.cell ∧ Below w.heap.size w w' := by
  have hmk := make59 n hn
  go_enter Yba.func11, Yba.ntmps11
  go_wp2
  go_loopw [22] (fun i wr => ∃ k : Nat, k ≤ n ∧ i = .int .i64 k ∧ wr.rowIs w.heap.size 59 (n * 4) (T.upto k) ∧ Below w.heap.size w wr) (fun i _ => n - (intOf i).toNat)
  case atStart =>
    exact ⟨0, Nat.zero_le _, rfl, (made59 n w).congr fun i _ => by simp [Tells.upto], (Below.refl _ _).alloc (by simp) _⟩
  case round =>
    obtain ⟨k, hk, rfl, hr, hb⟩ := hrel
    by_cases hlt : k < n
    · obtain ⟨b, off, rfl, hbl, hc⟩ := hrow k hlt
      have hc' : ∀ j, j < 4 → wr.cell? ⟨b, off + (k * 4 + j), none⟩ = some (T.cell (k * 4 + j)) := fun j hj => (hb.cell (p := ⟨b, off + (k * 4 + j), none⟩) hbl).trans (hc j hj)
      have c0 : wr.cell? ⟨b, off + k * 4, none⟩ = some (.int .u64 (T.att k)) := (hc' 0 (by omega)).trans (by rw [Nat.add_zero, T.cell0])
      have c1 : wr.cell? ⟨b, off + k * 4 + 1, none⟩ = some (.int .i64 (T.res k)) := (hc' 1 (by omega)).trans (by rw [T.cell1])
      have c2 : wr.cell? ⟨b, off + k * 4 + 2, none⟩ = some (.bool (T.tak k)) := (hc' 2 (by omega)).trans (by rw [T.cell2])
      have c3 : wr.cell? ⟨b, off + k * 4 + 3, none⟩ = some (.int .i64 (T.tim k)) := (hc' 3 (by omega)).trans (by rw [T.cell3])
      have r0 := hr.cell (i := k * 4) (by omega)
      have r1 := hr.cell (i := k * 4 + 1) (by omega)
      have r2 := hr.cell (i := k * 4 + 2) (by omega)
      have r3 := hr.cell (i := k * 4 + 3) (by omega)
      have f0 := hr.frozen (k * 4)
      have f1 := hr.frozen (k * 4 + 1)
      have f2 := hr.frozen (k * 4 + 2)
      have f3 := hr.frozen (k * 4 + 3)
      clear hrow hc hc'
      go_wp2
      go_region
      go_wp2
      exact ⟨⟨k + 1, by omega, by go_num, (row_step hr).drew, (hb.setCell (Nat.le_refl _) _ |>.setCell (Nat.le_refl _) _ |>.setCell (Nat.le_refl _) _ |>.setCell (Nat.le_refl _) _).drew⟩, by simp [intOf]; omega⟩
    · go_wp2
      go_ret
      refine ⟨_, rfl, Go.Deep.blk_alloc_new _ _, (hr.congr fun i hi => ?_).alloc _, hb.alloc hb.size _⟩
      rw [Tells.upto, if_pos (by omega)]
end Go.Proofs.Ybulkddry
