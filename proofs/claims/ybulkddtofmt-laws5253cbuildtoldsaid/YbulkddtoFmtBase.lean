import Derived.Test.YbulkddtoFmtIs
import Derived.Below
import Derived.BigQuiet
import Derived.Deep.RegionWith
import Derived.Deep.RegionHeld3
import Derived.Handy
import Derived.WalkSmall
import Derived.Laws.EntriesVeiled
import Derived.Laws.Pointers
import Derived.LaidEqlPtr
namespace Go.Proofs.YbulkddtoFmt
open Go.RowKit
set_option linter.unusedVariables false
set_option linter.unusedSimpArgs false

def At (w : World) (b : Nat) (c : Array Value) (T : TypeId) : Prop := w.heap[b]? = some (.cells c T)
theorem At.cell {w : World} {b : Nat} {c : Array Value} {T : TypeId} (h : At w b c T) (i : Nat) : w.cell? ⟨b, i, none⟩ = c[i]? := by
  unfold At at h; simp [World.cell?, h]
theorem At.frozen {w : World} {b : Nat} {c : Array Value} {T : TypeId} (h : At w b c T) (i : Nat) : w.frozen? ⟨b, i, none⟩ = false := by
  unfold At at h; simp [World.frozen?, h]
theorem At.lt {w : World} {b : Nat} {c : Array Value} {T : TypeId} (h : At w b c T) : b < w.heap.size := by
  unfold At at h; exact (Array.getElem?_eq_some_iff.1 h).1
theorem At.block {w w' : World} {b : Nat} {c : Array Value} {T : TypeId} (h : At w b c T) (e : w'.heap[b]? = w.heap[b]?) : At w' b c T := e.trans h
theorem At.alloc {w : World} {b : Nat} {c : Array Value} {T : TypeId} (h : At w b c T) (o : Obj) : At (w.alloc o) b c T := h.block (Below.heap_alloc _ _ _ h.lt)
theorem At.below {w w' : World} {b : Nat} {c : Array Value} {T : TypeId} (h : At w b c T) (hb : Below w.heap.size w w') : At w' b c T := h.block (hb.block b h.lt)
theorem At.drewN {w : World} {b : Nat} {c : Array Value} {T : TypeId} (h : At w b c T) (n : Nat) : At (w.drewN n) b c T := h
theorem At.drew {w : World} {b : Nat} {c : Array Value} {T : TypeId} (h : At w b c T) : At w.drew b c T := h
theorem At.set {w : World} {b : Nat} {c : Array Value} {T : TypeId} (h : At w b c T) (i : Nat) (v : Value) : At (w.setCell ⟨b, i, none⟩ v) b (c.setIfInBounds i v) T := by
  unfold At at *; simp [World.setCell, Array.getElem?_modify, h]
theorem At.other {w : World} {b : Nat} {c : Array Value} {T : TypeId} (h : At w b c T) {a : Addr} (ha : b ≠ a.block) (v : Value) : At (w.setCell a v) b c T := h.block (Below.heap_setCell _ _ _ _ ha)
theorem At.new (w : World) (c : Array Value) (T : TypeId) : At (w.alloc (.cells c T)) w.heap.size c T := by
  unfold At; show (w.heap.push _)[w.heap.size]? = _; simp
theorem At.new' (w : World) (c : Array Value) (T : TypeId) {b : Nat} (hb : w.heap.size = b) : At (w.alloc (.cells c T)) b c T := hb ▸ At.new w c T

theorem cell_keep {w w' : World} {b i : Nat} {v : Value} (h : w.cell? ⟨b, i, none⟩ = some v) (e : w'.heap[b]? = w.heap[b]?) : w'.cell? ⟨b, i, none⟩ = some v := by
  unfold World.cell? at h ⊢; rw [e]; exact h
theorem cell_set_ne {w : World} {b i B o : Nat} {v u : Value} (h : w.cell? ⟨b, i, none⟩ = some u) (hne : b ≠ B) : (w.setCell ⟨B, o, none⟩ v).cell? ⟨b, i, none⟩ = some u := cell_keep h (Below.heap_setCell _ _ _ _ hne)
theorem cell_lt {w : World} {b i : Nat} {v : Value} (h : w.cell? ⟨b, i, none⟩ = some v) : b < w.heap.size := by
  unfold World.cell? at h
  by_cases hb : b < w.heap.size
  · exact hb
  · rw [Array.getElem?_eq_none (by simpa using hb)] at h; simp at h
-- : Array Value := #[.int .u8 0, .int .u8 0, .int .u16 0, .bool false, .bool false, .bool false, .pointer none, .pointer none, .bool false, .pointer none, .bool false]

theorem below_more {n n' : Nat} {a b c : World} (h1 : Below n a b) (h2 : Below n' b c) (hn : n ≤ n') : Below n a c :=
  h1.trans ⟨h2.os, h2.tape, h2.output, h2.size, fun k hk => h2.block k (by omega)⟩
theorem below_cell {n B o : Nat} {w w6 : World} (h : Below n w w6) (hB : n ≤ B) (v : Value) : Below n w (w6.setCell ⟨B, o, none⟩ v) := h.setCell hB v


/-- The counter's six cells. -/
abbrev ctr (tb md nx : Int) : Array Value := #[.int .u64 tb, .int .u8 md, .int .i32 0, .int .u32 0, .int .u64 nx, .bool false]
/-- Only block C turned. -/
structure Only (C : Nat) (w w' : World) : Prop where
  os : w'.os = w.os
  tape : w'.tape = w.tape
  output : w'.output = w.output
  size : w'.heap.size = w.heap.size
  block : ∀ k, k ≠ C → w'.heap[k]? = w.heap[k]?
theorem Only.refl (C : Nat) (w : World) : Only C w w := ⟨rfl, rfl, rfl, rfl, fun _ _ => rfl⟩
theorem Only.set (C o : Nat) (w : World) (v : Value) : Only C w (w.setCell ⟨C, o, none⟩ v) := ⟨rfl, rfl, rfl, by simp [World.setCell], fun k hk => Below.heap_setCell _ _ _ _ hk⟩
theorem Only.drew {C : Nat} {w w' : World} (h : Only C w.drew w') : Only C w w' := ⟨h.os, h.tape, h.output, h.size, h.block⟩

theorem in_first (C b : Nat) (tb md nx v : Int) (w : World) (hC : At w C (ctr tb md nx) 42) (hb : At w b #[.int .u64 v] 22) :
    Calls Ybaf.prog 10 #[.pointer (some ⟨C, 0, none⟩), .pointer (some ⟨b, 0, none⟩)] w fun e w' => e = .returned (.tuple #[]) ∧ At w' C (ctr tb md v) 42 ∧ Only C w w' := by
  have b0 : w.cell? ⟨b, 0, none⟩ = some (.int .u64 v) := hb.cell 0
  have c4 : w.cell? ⟨C, 4, none⟩ = some (.int .u64 nx) := hC.cell 4
  have f4 := hC.frozen 4
  go_enter Ybaf.func10, Ybaf.ntmps10
  go_wp2
  go_end0
  exact ⟨rfl, hC.set 4 (.int .u64 v), Only.set _ _ _ _⟩
theorem in_mode (C b : Nat) (tb md nx m : Int) (w : World) (hC : At w C (ctr tb md nx) 42) (hb : At w b #[.int .u8 m] 27) :
    Calls Ybaf.prog 11 #[.pointer (some ⟨C, 0, none⟩), .pointer (some ⟨b, 0, none⟩)] w fun e w' => e = .returned (.tuple #[]) ∧ At w' C (ctr tb m nx) 42 ∧ Only C w w' := by
  have b0 : w.cell? ⟨b, 0, none⟩ = some (.int .u8 m) := hb.cell 0
  have c4 : w.cell? ⟨C, 1, none⟩ = some (.int .u8 md) := hC.cell 1
  have f4 := hC.frozen 1
  go_enter Ybaf.func11, Ybaf.ntmps11
  go_wp2
  go_end0
  exact ⟨rfl, hC.set 1 (.int .u8 m), Only.set _ _ _ _⟩
theorem in_add (C b : Nat) (tb md nx v : Int) (w : World) (hC : At w C (ctr tb md nx) 42) (hb : At w b #[.int .u64 v] 22) :
    Calls Ybaf.prog 6 #[.pointer (some ⟨C, 0, none⟩), .pointer (some ⟨b, 0, none⟩)] w fun e w' => e = .returned (.tuple #[]) ∧ At w' C (ctr tb md (IntKind.u64.wrap (nx + v))) 42 ∧ Only C w w' := by
  have b0 : w.cell? ⟨b, 0, none⟩ = some (.int .u64 v) := hb.cell 0
  have c4 : w.cell? ⟨C, 4, none⟩ = some (.int .u64 nx) := hC.cell 4
  have f4 := hC.frozen 4
  go_enter Ybaf.func6, Ybaf.ntmps6
  go_region
  all_goals (try go_wp2)
  all_goals go_end0
  all_goals (refine ⟨rfl, (hC.set 4 (.int .u64 (IntKind.u64.wrap (nx + v)))).drew, ?_⟩)
  all_goals exact ⟨rfl, rfl, rfl, by simp [World.setCell, World.drew], fun k hk => Below.heap_setCell _ _ _ _ hk⟩

/-! ### One step of the law -/
structure Op3 where
  op : Int
  v : Int
  m : Int
def fnOf (o : Op3) : Nat := if o.op % 3 = 0 then 10 else if o.op % 3 = 1 then 11 else 6
def tyOf (o : Op3) : TypeId := if o.op % 3 = 1 then 27 else 22
def valOf (o : Op3) : Value := if o.op % 3 = 1 then .int .u8 o.m else .int .u64 o.v
def mdOf (o : Op3) (md : Int) : Int := if o.op % 3 = 1 then o.m else md
def nxOf (o : Op3) (nx : Int) : Int := if o.op % 3 = 0 then o.v else if o.op % 3 = 1 then nx else IntKind.u64.wrap (nx + o.v)

theorem in_any (o : Op3) (C b : Nat) (tb md nx : Int) (w : World) (hC : At w C (ctr tb md nx) 42) (hb : At w b #[valOf o] (tyOf o)) :
    Calls Ybaf.prog (fnOf o) #[.pointer (some ⟨C, 0, none⟩), .pointer (some ⟨b, 0, none⟩)] w fun e w' => e = .returned (.tuple #[]) ∧ At w' C (ctr tb (mdOf o md) (nxOf o nx)) 42 ∧ Only C w w' := by
  unfold fnOf tyOf valOf mdOf nxOf at *
  by_cases h0 : o.op % 3 = 0
  · have h1 : ¬ o.op % 3 = 1 := by omega
    simp only [h0, h1, if_true, if_false] at hb ⊢
    exact in_first C b tb md nx o.v w hC hb
  · by_cases h1 : o.op % 3 = 1
    · simp only [h0, h1, if_true, if_false] at hb ⊢
      exact in_mode C b tb md nx o.m w hC hb
    · simp only [h0, h1, if_false] at hb ⊢
      exact in_add C b tb md nx o.v w hC hb

/-- Blocks below C, but LOG and SEEN, are as they were. -/
structure Kp (C LOG SEEN : Nat) (w w' : World) : Prop where
  os : w'.os = w.os
  tape : w'.tape = w.tape
  output : w'.output = w.output
  size : w.heap.size ≤ w'.heap.size
  block : ∀ b, b < C → b ≠ LOG → b ≠ SEEN → w'.heap[b]? = w.heap[b]?
theorem Kp.refl (C LOG SEEN : Nat) (w : World) : Kp C LOG SEEN w w := ⟨rfl, rfl, rfl, Nat.le_refl _, fun _ _ _ _ => rfl⟩
theorem Kp.trans {C LOG SEEN : Nat} {a b c : World} (h : Kp C LOG SEEN a b) (k : Kp C LOG SEEN b c) : Kp C LOG SEEN a c :=
  ⟨k.os.trans h.os, k.tape.trans h.tape, k.output.trans h.output, Nat.le_trans h.size k.size, fun x h1 h2 h3 => (k.block x h1 h2 h3).trans (h.block x h1 h2 h3)⟩

/-- The log: a slice of the call's own, past block C, that holds 0 .. k - 1. -/
def Log (w : World) (C : Nat) (lv : Value) (k : Nat) : Prop := w.ownsRow (C + 1) 3 1 lv k ((List.range k).map fun j => Value.int .i64 (j : Nat))
theorem Log.shape {w : World} {C k : Nat} {lv : Value} (h : Log w C lv k) : ∃ a cap, lv = .slice a k cap := by
  rcases h.2 with ⟨rfl, rfl⟩ | ⟨g, cap, cur, rfl, _⟩
  · exact ⟨none, 0, rfl⟩
  · exact ⟨_, _, rfl⟩
theorem Log.of_blocks {w w' : World} {C k : Nat} {lv : Value} (H : Log w C lv k) (e : ∀ j, C + 1 ≤ j → j < w.heap.size → w'.heap[j]? = w.heap[j]?) : Log w' C lv k := by
  obtain ⟨h1, h2⟩ := H
  refine ⟨h1, ?_⟩
  rcases h2 with h2 | ⟨g, cap, cur, hv, hb, hh, r⟩
  · exact .inl h2
  · exact .inr ⟨g, cap, cur, hv, hb, (e g hb (Array.getElem?_eq_some_iff.1 hh).1).trans hh, r⟩
theorem Log.cell {w : World} {C k : Nat} {lv : Value} (H : Log w C lv k) {j : Nat} (hj : j < k) : ∃ g cap, lv = .slice (some ⟨g, 0, none⟩) k cap ∧ k ≤ cap ∧ cap ≤ maxLen ∧ w.cell? ⟨g, j, none⟩ = some (.int .i64 (j : Nat)) := by
  rcases H.2 with ⟨_, h0⟩ | ⟨g, cap, cur, hv, hb, hh, h1, h2, h3, h4⟩
  · omega
  · refine ⟨g, cap, hv, h1, h2, ?_⟩
    simp only [World.cell?, hh]
    have : (cur.toList.take (k * 1))[j]? = some (.int .i64 (j : Nat)) := by rw [h4]; simp [hj]
    rw [List.getElem?_take_of_lt (by omega)] at this
    simpa using this
theorem At.ne {w : World} {a b : Nat} {c d : Array Value} {T U : TypeId} (h : At w a c T) (k : At w b d U) (hT : T ≠ U) : a ≠ b := by
  rintro rfl
  unfold At at h k
  rw [h] at k
  injection k with k
  injection k with _ k
  exact hT k
end Go.Proofs.YbulkddtoFmt
