import Derived.Test.YbulkddtoDoorConf
namespace Go.Proofs.YbulkddtoDoor
open Go.RowKit
set_option linter.unusedVariables false

theorem Cnt.block {w w' : World} {b o : Nat} {c : Nat → Int} (h : Cnt w b o c) (e : w'.heap[b]? = w.heap[b]?) : Cnt w' b o c := by
  intro i hi
  have := h i hi
  unfold World.cell? at this ⊢
  rw [e]; exact this
theorem Cnt.lt {w : World} {b o : Nat} {c : Nat → Int} (h : Cnt w b o c) : b < w.heap.size := by
  have := h 0 (by omega)
  unfold World.cell? at this
  by_cases hb : b < w.heap.size
  · exact hb
  · rw [Array.getElem?_eq_none (by simpa using hb)] at this; simp at this
theorem Cnt.below {w w' : World} {b o : Nat} {c : Nat → Int} (h : Cnt w b o c) (hb : Below w.heap.size w w') : Cnt w' b o c := h.block (hb.block b h.lt)
theorem Tab.block {w w' : World} (h : Tab w) (e : w'.heap[0]? = w.heap[0]?) : Tab w' := by
  intro i m hi hm
  have := h i m hi hm
  unfold World.cell? at this ⊢
  rw [e]; exact this
theorem Tab.lt {w : World} (h : Tab w) : 0 < w.heap.size := by
  have := h 0 0 (by omega) (by omega)
  unfold World.cell? at this
  by_cases hb : 0 < w.heap.size
  · exact hb
  · rw [Array.getElem?_eq_none (by simpa using hb)] at this; simp at this
theorem Tab.below {w w' : World} (h : Tab w) (hb : Below w.heap.size w w') : Tab w' := h.block (hb.block 0 h.lt)

theorem below_drewN {n : Nat} {w w' : World} (h : Below n w w') (q : Nat) : Below n w (w'.drewN q) := ⟨h.os, h.tape, h.output, h.size, h.block⟩

abbrev req (m : Nat) (hp : Int) (up : Bool) : Array Value := #[.int .u8 m, .int .u8 0, .int .u16 hp, .bool up]

set_option maxHeartbeats 400000 in
theorem may_any (g wt : Nat → Int) (m Q : Nat) (hp : Int) (up : Bool) (hm : m < 5) (w : World) (hG : Cnt w Q 5 g) (hW : Cnt w Q 10 wt) (hT : Tab w) :
    Calls Ybad.prog 6 #[.pointer (some ⟨Q, 0, none⟩), .agg (req m hp up)] w fun e w' => e = .returned (.bool (conf g m 5 || conf wt m 5)) ∧ Below w.heap.size w w' := by
  go_enter Ybad.func6, Ybad.ntmps6
  go_wp2_with fail
  have hR := At.new w (req m hp up) 27
  have hB : Below w.heap.size w (w.alloc (.cells (req m hp up) 27)) := (Below.refl _ _).alloc (by simp) _
  have hG1 := hG.below hB
  have hW1 := hW.below hB
  have hT1 := hT.below hB
  generalize w.alloc (.cells (req m hp up) 27) = w1 at *
  have r0 : w1.cell? ⟨w.heap.size, 0, none⟩ = some (.int .u8 m) := hR.cell 0
  clear hR
  have hA : ∀ n, Calls Ybad.prog 7 #[.pointer (some ⟨Q, 5, none⟩), .int .u8 m] (w1.drewN n) fun e w' => e = .returned (.bool (conf g m 5)) ∧ ∃ q, w' = w1.drewN q :=
    fun n => Calls.quiet_of (confl_any g m Q 5 hm _ (hG1.drewN n) (hT1.drewN n))
  have hA2 : ∀ n, Calls Ybad.prog 7 #[.pointer (some ⟨Q, 10, none⟩), .int .u8 m] (w1.drewN n) fun e w' => e = .returned (.bool (conf wt m 5)) ∧ ∃ q, w' = w1.drewN q :=
    fun n => Calls.quiet_of (confl_any wt m Q 10 hm _ (hW1.drewN n) (hT1.drewN n))
  obtain ⟨x, hx⟩ : ∃ x, Hid (conf g m 5 = x) := ⟨_, rfl⟩
  obtain ⟨y, hy⟩ : ∃ y, Hid (conf wt m 5 = y) := ⟨_, rfl⟩
  rw [hx.out] at hA
  rw [hy.out] at hA2
  cases x
  · go_quiet ((go_at_call 7; first | with_reducible exact hA _ | with_reducible exact hA2 _))
    go_wp2
    go_ret
    exact ⟨by rw [hx.out, hy.out]; rfl, below_drewN hB _⟩
  · go_quiet ((go_at_call 7; first | with_reducible exact hA _ | with_reducible exact hA2 _))
    go_wp2
    go_ret
    exact ⟨by rw [hx.out, hy.out]; rfl, below_drewN hB _⟩
end Go.Proofs.YbulkddtoDoor
