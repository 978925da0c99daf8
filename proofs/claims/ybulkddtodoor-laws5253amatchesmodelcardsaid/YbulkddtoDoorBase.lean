import Derived.Test.YbulkddtoDoorRows
import Derived.WalkKit
import Derived.Below
import Derived.BigQuiet
import Derived.Deep.QuietTactic
import Derived.Deep.RegionWith
import Derived.Deep.DeepCutAuto
import Derived.Handy
import Derived.WalkSmall
import Derived.Laws.EntriesVeiled
import Derived.Great.Walk
namespace Go.Proofs.YbulkddtoDoor
open Go.RowKit
set_option linter.unusedVariables false

def At (w : World) (b : Nat) (c : Array Value) (T : TypeId) : Prop := w.heap[b]? = some (.cells c T)
theorem At.cell {w : World} {b : Nat} {c : Array Value} {T : TypeId} (h : At w b c T) (i : Nat) : w.cell? ⟨b, i, none⟩ = c[i]? := by
  unfold At at h; simp [World.cell?, h]
theorem At.frozen {w : World} {b : Nat} {c : Array Value} {T : TypeId} (h : At w b c T) (i : Nat) : w.frozen? ⟨b, i, none⟩ = false := by
  unfold At at h; simp [World.frozen?, h]
theorem At.lt {w : World} {b : Nat} {c : Array Value} {T : TypeId} (h : At w b c T) : b < w.heap.size := by
  unfold At at h; exact (Array.getElem?_eq_some_iff.1 h).1
theorem At.block {w w' : World} {b : Nat} {c : Array Value} {T : TypeId} (h : At w b c T) (e : w'.heap[b]? = w.heap[b]?) : At w' b c T := e.trans h
theorem At.alloc {w : World} {b : Nat} {c : Array Value} {T : TypeId} (h : At w b c T) (o : Obj) : At (w.alloc o) b c T := h.block (Below.heap_alloc _ _ _ h.lt)
theorem At.below {w w' : World} {b : Nat} {c : Array Value} {T : TypeId} (h : At w b c T) (hb : Below w.heap.size w w') : At w' b c T := h.block (hb.block b h.lt)
theorem At.drewN {w : World} {b : Nat} {c : Array Value} {T : TypeId} (h : At w b c T) (n : Nat) : At (w.drewN n) b c T := h
theorem At.drew {w : World} {b : Nat} {c : Array Value} {T : TypeId} (h : At w b c T) : At w.drew b c T := h
theorem At.set {w : World} {b : Nat} {c : Array Value} {T : TypeId} (h : At w b c T) (i : Nat) (v : Value) : At (w.setCell ⟨b, i, none⟩ v) b (c.setIfInBounds i v) T := by
  unfold At at *; simp [World.setCell, Array.getElem?_modify, h]
theorem At.other {w : World} {b : Nat} {c : Array Value} {T : TypeId} (h : At w b c T) {a : Addr} (ha : b ≠ a.block) (v : Value) : At (w.setCell a v) b c T := h.block (Below.heap_setCell _ _ _ _ ha)
theorem At.new (w : World) (c : Array Value) (T : TypeId) : At (w.alloc (.cells c T)) w.heap.size c T := by
  unfold At; show (w.heap.push _)[w.heap.size]? = _; simp
theorem At.new' (w : World) (c : Array Value) (T : TypeId) {b : Nat} (hb : w.heap.size = b) : At (w.alloc (.cells c T)) b c T := hb ▸ At.new w c T

/-- The table of conflicts. -/
def tab : Nat → Nat → Bool
  | 0, m => m == 3
  | 1, m => m == 2 || m == 3
  | 2, m => m == 1 || m == 3 || m == 4
  | 3, _ => true
  | _, m => m == 2 || m == 3 || m == 4
abbrev tabCells : Array Value := #[.bool false, .bool false, .bool false, .bool true, .bool false, .bool false, .bool false, .bool true, .bool true, .bool false, .bool false, .bool true, .bool false, .bool true, .bool true, .bool true, .bool true, .bool true, .bool true, .bool true, .bool false, .bool false, .bool true, .bool true, .bool true]
theorem tab_at {i m : Nat} (hi : i < 5) (hm : m < 5) : tabCells[i * 5 + m]? = some (.bool (tab i m)) := by
  have h1 : i = 0 ∨ i = 1 ∨ i = 2 ∨ i = 3 ∨ i = 4 := by omega
  have h2 : m = 0 ∨ m = 1 ∨ m = 2 ∨ m = 3 ∨ m = 4 := by omega
  rcases h1 with rfl | rfl | rfl | rfl | rfl <;> rcases h2 with rfl | rfl | rfl | rfl | rfl <;> rfl

abbrev cells5 (c : Nat → Int) : Array Value := #[.int .i32 (c 0), .int .i32 (c 1), .int .i32 (c 2), .int .i32 (c 3), .int .i32 (c 4)]
theorem cells5_at (c : Nat → Int) {i : Nat} (hi : i < 5) : (cells5 c)[i]? = some (.int .i32 (c i)) := by
  have h1 : i = 0 ∨ i = 1 ∨ i = 2 ∨ i = 3 ∨ i = 4 := by omega
  rcases h1 with rfl | rfl | rfl | rfl | rfl <;> rfl

/-- Does one of the first k counts conflict with mode m? -/
def conf (c : Nat → Int) (m : Nat) : Nat → Bool
  | 0 => false
  | k + 1 => conf c m k || (decide (0 < c k) && tab k m)

theorem conf_more {c : Nat → Int} {m k : Nat} (h : conf c m k = true) : ∀ j, conf c m (k + j) = true
  | 0 => h
  | j + 1 => by show (conf c m (k + j) || _) = true; rw [conf_more h j]; rfl

theorem setRow_new (w : World) (a b : Array Value) (T : TypeId) : (w.alloc (.cells a T)).setRow w.heap.size b = w.alloc (.cells b T) := by
  unfold World.setRow World.alloc
  congr 1
  apply Array.ext
  · simp
  · intro k h1 h2
    simp only [Array.getElem_modify, Array.getElem_push]
    by_cases hk : k < w.heap.size
    · rw [if_neg (by omega), dif_pos hk, dif_pos hk]
    · have : k = w.heap.size := by simp at h2; omega
      subst this
      simp

theorem At.row {w : World} {b : Nat} {a c : Array Value} {T : TypeId} (h : At w b a T) : At (w.setRow b c) b c T := setRow_heap w b a c T _ h

set_option maxHeartbeats 1600000 in
theorem zconfl_any (c : Nat → Int) (m : Nat) (hm : m < 5) (w : World) :
    Calls Ybad.prog 5 #[.agg (cells5 c), .int .i64 m] w fun e w' => e = .returned (.bool (conf c m 5)) ∧ Below w.heap.size w w' := by
  go_enter Ybad.func5, Ybad.ntmps5
  go_upto_region 1 with fail
  have hC := At.new w (cells5 c) 22
  have hB : Below w.heap.size w (w.alloc (.cells (cells5 c) 22)) := (Below.refl _ _).alloc (by simp) _
  have hz : (w.alloc (.cells (cells5 c) 22)).heap.size = w.heap.size + 1 := by simp
  generalize w.alloc (.cells (cells5 c) 22) = w1 at *
  refine wp_region_list ?_
  refine Great.wpList_readTo rfl (some 7) rfl (.agg #[.bool false, .bool false, .bool false, .bool true, .bool false]) (by as_aux_lemma => kernel_rfl) ?_
  refine Great.wpList_readTo rfl (some 8) rfl (.agg #[.bool false, .bool false, .bool true, .bool true, .bool false]) (by as_aux_lemma => kernel_rfl) ?_
  refine Great.wpList_readTo rfl (some 9) rfl (.agg #[.bool false, .bool true, .bool false, .bool true, .bool true]) (by as_aux_lemma => kernel_rfl) ?_
  refine Great.wpList_readTo rfl (some 10) rfl (.agg #[.bool true, .bool true, .bool true, .bool true, .bool true]) (by as_aux_lemma => kernel_rfl) ?_
  refine Great.wpList_readTo rfl (some 11) rfl (.agg #[.bool false, .bool false, .bool true, .bool true, .bool true]) (by as_aux_lemma => kernel_rfl) ?_
  refine Great.wpList_readTo rfl (some 12) rfl (.agg tabCells) (by as_aux_lemma => kernel_rfl) ?_
  refine Great.wpList_allocTo rfl (some 5) rfl (.pointer (some ⟨w1.heap.size, 0, none⟩)) (.cells (Array.replicate 25 (.bool false)) 66) (by as_aux_lemma => kernel_rfl) ?_
  refine wpList_store_rowTo rfl 66 _ _ rfl rfl w1.heap.size tabCells (by as_aux_lemma => kernel_rfl) (by as_aux_lemma => kernel_rfl) 66 (Array.replicate 25 (.bool false)) (At.new _ _ _) (by as_aux_lemma => kernel_rfl) (by as_aux_lemma => kernel_rfl) (by as_aux_lemma => kernel_rfl) ?_
  rw [setRow_new]
  have hC2 := hC.alloc (.cells tabCells 66)
  have hT := At.new w1 tabCells 66
  have hB2 := hB.alloc (by omega) (.cells tabCells 66)
  rw [hz] at hT ⊢
  clear hC hB
  generalize w1.alloc (.cells tabCells 66) = w2 at *
  refine wpList_frame (a' := { tmps := #[.agg (cells5 c), .int .i64 m, .pointer (some ⟨w.heap.size, 0, none⟩), undef, .bool false, .pointer (some ⟨w.heap.size + 1, 0, none⟩), undef, .agg #[.bool false, .bool false, .bool false, .bool true, .bool false], .agg #[.bool false, .bool false, .bool true, .bool true, .bool false], .agg #[.bool false, .bool true, .bool false, .bool true, .bool true], .agg #[.bool true, .bool true, .bool true, .bool true, .bool true], .agg #[.bool false, .bool false, .bool true, .bool true, .bool true], .agg tabCells, undef, undef, undef, undef, undef, undef, undef, undef, undef, undef, undef, undef, undef, undef, undef], defers := [] }) (by as_aux_lemma => kernel_rfl) ?_
  apply wpList_nil
  rename_i K hK
  show K _ _
  apply hK
  clear hK
  go_wp2_with fail
  go_loop [6] (fun v => ∃ k : Nat, v = .int .i64 k ∧ k ≤ 5 ∧ Hid (conf c m k = false)) (fun v => 5 - (intOf v).toNat)
  case atStart => exact ⟨0, rfl, by omega, rfl⟩
  case round =>
    obtain ⟨k, rfl, hk, hf⟩ := hrel
    by_cases hlt : k < 5
    · have c0 : w2.cell? ⟨w.heap.size, k, none⟩ = some (.int .i32 (c k)) := (hC2.cell k).trans (cells5_at c hlt)
      have t0 : w2.cell? ⟨w.heap.size + 1, k * 5 + m, none⟩ = some (.bool (tab k m)) := (hT.cell _).trans (tab_at hlt hm)
      by_cases hp : 0 < c k
      · cases ht : tab k m with
        | true =>
          rw [ht] at t0
          have hy : Hid (conf c m 5 = true) := by
            have h1 : conf c m (k + 1) = true := by show (_ || _) = true; simp [hp, ht]
            have := conf_more h1 (5 - (k + 1))
            rwa [show k + 1 + (5 - (k + 1)) = 5 by omega] at this
          clear ht
          go_wp2
          go_ret
          exact ⟨by rw [hy.out]; rfl, hB2⟩
        | false =>
          rw [ht] at t0
          have hn : Hid (conf c m (k + 1) = false) := by show (_ || _) = false; rw [hf.out, ht]; simp
          clear ht
          go_wp2
          go_round
          case rel => exact ⟨k + 1, by go_num, by omega, hn⟩
          case measure => simp [intOf]; omega
      · have hd : decide (0 < c k) = false := by simpa using hp
        have hn : Hid (conf c m (k + 1) = false) := by show (_ || _) = false; rw [hf.out, hd]; rfl
        go_wp2
        go_round
        case rel => exact ⟨k + 1, by go_num, by omega, hn⟩
        case measure => simp [intOf]; omega
    · obtain rfl : k = 5 := by omega
      go_wp2
      go_ret
      exact ⟨by rw [hf.out]; rfl, hB2⟩
end Go.Proofs.YbulkddtoDoor
