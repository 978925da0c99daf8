import Derived.Test.YbulkddxiDel
namespace Go.Proofs.Ybulkddxi
open Go.RowKit
set_option linter.unusedVariables false
set_option linter.unusedSimpArgs false

def pl (B : Nat → Nat) (k : Nat) : List Value := (List.range k).map fun j => Value.pointer (some ⟨B j, 0, none⟩)
theorem pl_one (B : Nat → Nat) (k : Nat) : ∀ u ∈ pl B k, u.oneCell' = true := by
  intro u hu
  simp only [pl, List.mem_map] at hu
  obtain ⟨j, _, rfl⟩ := hu
  rfl
theorem pl_at (B : Nat → Nat) {k j : Nat} (h : j < k) : (pl B k)[j]? = some (.pointer (some ⟨B j, 0, none⟩)) := by simp [pl, h]

set_option maxHeartbeats 1000000 in
theorem clone_any (S k : Nat) (B : Nat → Nat) (w : World) (h0 : 0 < k) (hk : k ≤ 400) (hS : At w S (pts B k) 26) :
    Calls Yba.prog 4 #[.slice (some ⟨S, 0, none⟩) k k] w fun e w' => ∃ v, e = .returned v ∧ w'.ownsRow w.heap.size 26 1 v k (pl B k) ∧ Below w.heap.size w w' := by
  obtain ⟨i0, hi0, hz0, hz1, hz2⟩ := info_parts info26
  have src : ∀ (o : Obj) j u, (pl B k)[j]? = some u → (w.alloc o).cell? ((⟨S, 0, none⟩ : Addr).add j) = some u := by
    intro o j u hj
    by_cases hjk : j < k
    · rw [pl_at B hjk] at hj
      rw [Go.WideShapes.add_plain, Nat.zero_add, (hS.alloc o).cell, pts_at B hjk]; exact hj
    · rw [List.getElem?_eq_none (by simp [pl]; omega)] at hj; cases hj
  have heq : ∀ w : World, (binOp .eql 25 (.slice (some ⟨S, 0, none⟩) k k) (.slice none 0 0)).run Yba.prog w = .ok (.bool false) w := fun w => by kernel_rfl
  go_enter Yba.func4, Yba.ntmps4
  go_wp2_with (at_builtin; refine wpList_append_own_at _ rfl (.tmp 5) (.tmp 6) 25 rfl w.heap.size 26 i0 (.pointer none) 1 8 Yba.underlying25 hi0 hz0 hz1 hz2 rfl (by decide) _ _ _ rfl (World.ownsRow_made w #[] 0 (Nat.le_refl _) (by unfold maxLen; omega) rfl) ⟨S, 0, none⟩ k k (pl B k) rfl (by simp [pl]) (src _) (pl_one B k) (by unfold maxLen; omega) (by omega) (by simp) ?_; intro v1 w2 own1 g1 _ _)
  go_ret
  simp only [Nat.zero_add, List.nil_append] at own1
  refine ⟨v1, rfl, own1, ⟨g1.os, g1.tape, g1.output, by have := g1.size; simp at this; omega, fun j hj => (g1.block j (by simp; omega) (fun h => Nat.ne_of_lt hj (Option.some.inj h))).trans (Below.heap_alloc _ _ _ hj)⟩⟩
end Go.Proofs.Ybulkddxi
