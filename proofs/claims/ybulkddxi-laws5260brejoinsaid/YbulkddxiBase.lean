import Derived.Test.YbulkddxiRows
import Derived.WalkKit
import Derived.Below
import Derived.BigQuiet
import Derived.Deep.QuietTactic
import Derived.Deep.RegionWith
import Derived.Deep.RegionHeld3
import Derived.Deep.DeepCutAuto
import Derived.Deep.RegionLaw
import Derived.Handy
import Derived.WalkSmall
import Derived.Laws.EntriesVeiled
import Derived.Laws.Pointers
import Derived.LaidEqlPtr
import Derived.Maps.AppendAt
import Derived.Laws.Rows
import Derived.Laws.CopyRow
namespace Go.Proofs.Ybulkddxi
open Go.RowKit
set_option linter.unusedVariables false
set_option linter.unusedSimpArgs false

def At (w : World) (b : Nat) (c : Array Value) (T : TypeId) : Prop := w.heap[b]? = some (.cells c T)
theorem At.cell {w : World} {b : Nat} {c : Array Value} {T : TypeId} (h : At w b c T) (i : Nat) : w.cell? ⟨b, i, none⟩ = c[i]? := by
  unfold At at h; simp [World.cell?, h]
theorem At.frozen {w : World} {b : Nat} {c : Array Value} {T : TypeId} (h : At w b c T) (i : Nat) : w.frozen? ⟨b, i, none⟩ = false := by
  unfold At at h; simp [World.frozen?, h]
theorem At.lt {w : World} {b : Nat} {c : Array Value} {T : TypeId} (h : At w b c T) : b < w.heap.size := by
  unfold At at h; exact (Array.getElem?_eq_some_iff.1 h).1
theorem At.block {w w' : World} {b : Nat} {c : Array Value} {T : TypeId} (h : At w b c T) (e : w'.heap[b]? = w.heap[b]?) : At w' b c T := e.trans h
theorem At.alloc {w : World} {b : Nat} {c : Array Value} {T : TypeId} (h : At w b c T) (o : Obj) : At (w.alloc o) b c T := h.block (Below.heap_alloc _ _ _ h.lt)
theorem At.below {w w' : World} {b : Nat} {c : Array Value} {T : TypeId} (h : At w b c T) (hb : Below w.heap.size w w') : At w' b c T := h.block (hb.block b h.lt)
theorem At.drewN {w : World} {b : Nat} {c : Array Value} {T : TypeId} (h : At w b c T) (n : Nat) : At (w.drewN n) b c T := h
theorem At.drew {w : World} {b : Nat} {c : Array Value} {T : TypeId} (h : At w b c T) : At w.drew b c T := h
theorem At.set {w : World} {b : Nat} {c : Array Value} {T : TypeId} (h : At w b c T) (i : Nat) (v : Value) : At (w.setCell ⟨b, i, none⟩ v) b (c.setIfInBounds i v) T := by
  unfold At at *; simp [World.setCell, Array.getElem?_modify, h]
theorem At.other {w : World} {b : Nat} {c : Array Value} {T : TypeId} (h : At w b c T) {a : Addr} (ha : b ≠ a.block) (v : Value) : At (w.setCell a v) b c T := h.block (Below.heap_setCell _ _ _ _ ha)
theorem At.new (w : World) (c : Array Value) (T : TypeId) : At (w.alloc (.cells c T)) w.heap.size c T := by
  unfold At; show (w.heap.push _)[w.heap.size]? = _; simp
theorem At.new' (w : World) (c : Array Value) (T : TypeId) {b : Nat} (hb : w.heap.size = b) : At (w.alloc (.cells c T)) b c T := hb ▸ At.new w c T

theorem cell_keep {w w' : World} {b i : Nat} {v : Value} (h : w.cell? ⟨b, i, none⟩ = some v) (e : w'.heap[b]? = w.heap[b]?) : w'.cell? ⟨b, i, none⟩ = some v := by
  unfold World.cell? at h ⊢; rw [e]; exact h
theorem cell_set_ne {w : World} {b i B o : Nat} {v u : Value} (h : w.cell? ⟨b, i, none⟩ = some u) (hne : b ≠ B) : (w.setCell ⟨B, o, none⟩ v).cell? ⟨b, i, none⟩ = some u := cell_keep h (Below.heap_setCell _ _ _ _ hne)
theorem cell_lt {w : World} {b i : Nat} {v : Value} (h : w.cell? ⟨b, i, none⟩ = some v) : b < w.heap.size := by
  unfold World.cell? at h
  by_cases hb : b < w.heap.size
  · exact hb
  · rw [Array.getElem?_eq_none (by simpa using hb)] at h; simp at h
-- : Array Value := #[.int .u8 0, .int .u8 0, .int .u16 0, .bool false, .bool false, .bool false, .pointer none, .pointer none, .bool false, .pointer none, .bool false]

theorem below_more {n n' : Nat} {a b c : World} (h1 : Below n a b) (h2 : Below n' b c) (hn : n ≤ n') : Below n a c :=
  h1.trans ⟨h2.os, h2.tape, h2.output, h2.size, fun k hk => h2.block k (by omega)⟩
theorem below_cell {n B o : Nat} {w w6 : World} (h : Below n w w6) (hB : n ≤ B) (v : Value) : Below n w (w6.setCell ⟨B, o, none⟩ v) := h.setCell hB v



theorem At.ne {w : World} {a b : Nat} {c d : Array Value} {T U : TypeId} (h : At w a c T) (k : At w b d U) (hT : T ≠ U) : a ≠ b := by
  rintro rfl
  unfold At at h k
  rw [h] at k
  injection k with k
  injection k with _ k
  exact hT k
theorem At.row {w : World} {b : Nat} {a c : Array Value} {T : TypeId} (h : At w b a T) : At (w.setRow b c) b c T := setRow_heap w b a c T _ h

/-! ### A leaf, as its numbers -/
def qcell (x : Int) (r : Nat) : Value :=
  match r with
  | 0 => .string ⟨#[]⟩
  | 1 => .slice none 0 0
  | 2 => .string ⟨#[]⟩
  | 3 => .int .u64 x
  | 5 => .slice none 0 0
  | 6 => .slice none 0 0
  | 7 => .slice none 0 0
  | 10 => .bool false
  | _ => .int .u64 0
def lcell (ed n : Int) (E L : Nat → Int) (i : Nat) : Value :=
  if i = 0 then .int .u64 ed else if i = 1 then .int .i64 n else if i < 561 then qcell (E ((i - 2) / 13)) ((i - 2) % 13) else .int .i32 (L (i - 561))
def leafA (ed n : Int) (E L : Nat → Int) : Array Value := (Array.range 604).map (lcell ed n E L)
theorem leafA_size (ed n : Int) (E L : Nat → Int) : (leafA ed n E L).size = 604 := by simp [leafA]
theorem leafA_at (ed n : Int) (E L : Nat → Int) {i : Nat} (hi : i < 604) : (leafA ed n E L)[i]? = some (lcell ed n E L i) := by simp [leafA, hi]
theorem leafA_ext {c : Array Value} {ed n : Int} {E L : Nat → Int} (hs : c.size = 604) (h : ∀ i, i < 604 → c[i]? = some (lcell ed n E L i)) : c = leafA ed n E L := by
  apply Array.ext_getElem?
  intro i
  by_cases hi : i < 604
  · rw [h i hi, leafA_at _ _ _ _ hi]
  · rw [Array.getElem?_eq_none (by omega), Array.getElem?_eq_none (by rw [leafA_size]; omega)]
theorem lcell_epoch (ed n : Int) (E L : Nat → Int) {j : Nat} (hj : j < 43) : lcell ed n E L (2 + j * 13 + 3) = .int .u64 (E j) := by
  unfold lcell
  rw [if_neg (by omega), if_neg (by omega), if_pos (by omega), show (2 + j * 13 + 3 - 2) / 13 = j by omega, show (2 + j * 13 + 3 - 2) % 13 = 3 by omega]
  rfl
theorem lcell_len (ed n : Int) (E L : Nat → Int) (j : Nat) : lcell ed n E L (561 + j) = .int .i32 (L j) := by
  unfold lcell
  rw [if_neg (by omega), if_neg (by omega), if_neg (by omega), show 561 + j - 561 = j by omega]
/-- A function turned at one place. -/
def upd (f : Nat → Int) (j : Nat) (x : Int) : Nat → Int := fun i => if i = j then x else f i
theorem leafA_n (ed n n' : Int) (E L : Nat → Int) : (leafA ed n E L).setIfInBounds 1 (.int .i64 n') = leafA ed n' E L := by
  refine leafA_ext (by simp [leafA_size]) fun i hi => ?_
  by_cases h : i = 1
  · subst h; simp [leafA_size, lcell]
  · rw [Array.getElem?_setIfInBounds_ne (by omega), leafA_at _ _ _ _ hi]; unfold lcell; rw [if_neg h, if_neg h]
theorem leafA_ed (ed ed' n : Int) (E L : Nat → Int) : (leafA ed n E L).setIfInBounds 0 (.int .u64 ed') = leafA ed' n E L := by
  refine leafA_ext (by simp [leafA_size]) fun i hi => ?_
  by_cases h : i = 0
  · subst h; simp [leafA_size, lcell]
  · rw [Array.getElem?_setIfInBounds_ne (by omega), leafA_at _ _ _ _ hi]; unfold lcell; rw [if_neg h, if_neg h]
theorem qcell_ne (x y : Int) {r : Nat} (h : r ≠ 3) : qcell x r = qcell y r := by
  unfold qcell; split <;> first | rfl | exact absurd rfl h
theorem leafA_epoch (ed n x : Int) (E L : Nat → Int) {j : Nat} (hj : j < 43) : (leafA ed n E L).setIfInBounds (2 + j * 13 + 3) (.int .u64 x) = leafA ed n (upd E j x) L := by
  refine leafA_ext (by simp [leafA_size]) fun i hi => ?_
  by_cases h : i = 2 + j * 13 + 3
  · subst h
    rw [Array.getElem?_setIfInBounds_self_of_lt (by rw [leafA_size]; omega), lcell_epoch _ _ _ _ hj]; simp [upd]
  · rw [Array.getElem?_setIfInBounds_ne (by omega), leafA_at _ _ _ _ hi]
    unfold lcell
    by_cases h0 : i = 0
    · simp [h0]
    · by_cases h1 : i = 1
      · simp [h1]
      · rw [if_neg h0, if_neg h1, if_neg h0, if_neg h1]
        by_cases h2 : i < 561
        · rw [if_pos h2, if_pos h2]
          by_cases h3 : (i - 2) / 13 = j
          · rw [qcell_ne _ (upd E j x ((i - 2) / 13)) (by omega)]
          · unfold upd; rw [if_neg h3]
        · rw [if_neg h2, if_neg h2]
theorem leafA_len (ed n x : Int) (E L : Nat → Int) {j : Nat} (hj : j < 43) : (leafA ed n E L).setIfInBounds (561 + j) (.int .i32 x) = leafA ed n E (upd L j x) := by
  refine leafA_ext (by simp [leafA_size]) fun i hi => ?_
  by_cases h : i = 561 + j
  · subst h
    rw [Array.getElem?_setIfInBounds_self_of_lt (by rw [leafA_size]; omega), lcell_len]; simp [upd]
  · rw [Array.getElem?_setIfInBounds_ne (by omega), leafA_at _ _ _ _ hi]
    unfold lcell upd
    by_cases h2 : i < 561
    · simp [h2]
    · rw [if_neg (by omega), if_neg (by omega), if_neg h2, if_neg (by omega), if_neg (by omega), if_neg h2, if_neg (by omega)]
theorem zero36 (w : World) : (zeroValue 36).run Yba.prog w = .ok (.agg (leafA 0 0 (fun _ => 0) (fun _ => 0))) w := by kernel_rfl
end Go.Proofs.Ybulkddxi
