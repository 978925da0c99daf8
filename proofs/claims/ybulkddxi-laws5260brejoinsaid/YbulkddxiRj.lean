import Derived.Test.YbulkddxiJAlo
import Derived.Test.YbulkddxiJBlo
namespace Go.Proofs.Ybulkddxi
open Go.RowKit
set_option linter.unusedVariables false
set_option linter.unusedSimpArgs false

/-- What rejoin leaves where the two leaves become one, c: the row's first n - 1 pointers, the new leaf, the rest as it was. -/
def JoinLo (w : World) (eb S n p tot : Nat) (B : Nat → Nat) (n1 n2 : Nat) (E1 L1 E2 L2 : Nat → Int) (c : Nat) (w' : World) : Prop :=
  w.heap.size ≤ c ∧ At w' eb (edC S (n - 1) n tot) 44 ∧ (∀ j, j < n - 1 → w'.cell? ⟨S, j, none⟩ = some (.pointer (some ⟨if j < p then B j else if j = p then c else B (j + 1), 0, none⟩))) ∧
    At w' c (leafA 1 ((n1 + n2 : Nat) : Int) (zap (n1 + n2) n1 (fst (n1 + n2) (cat2 n1 E1 E2) E1)) (fst (n1 + n2) (cat2 n1 L1 L2) L1)) 36 ∧ Keep2 S eb w w'
theorem join_row {w' : World} {S k p c : Nat} {B : Nat → Nat} (hp : p < k) (h : At w' S ((pts (dl (fun j => if j = p then c else B j) p) (k + 1)).setIfInBounds k (.pointer none)) 26) :
    ∀ j, j < k → w'.cell? ⟨S, j, none⟩ = some (.pointer (some ⟨if j < p then B j else if j = p then c else B (j + 1), 0, none⟩)) := by
  intro j hj
  rw [h.cell, Array.getElem?_setIfInBounds_ne (by omega), pts_at _ (by omega)]
  have e : dl (fun j => if j = p then c else B j) p j = if j < p then B j else if j = p then c else B (j + 1) := by
    unfold dl
    by_cases h1 : j < p
    · simp [h1, show j ≤ p by omega, show ¬ j = p by omega]
    · by_cases h2 : j = p
      · simp [h2]
      · simp [h1, h2, show ¬ j ≤ p by omega, show ¬ (j + 1 = p) by omega]
  rw [e]

theorem rejoin_lo (eb S n i p tot : Nat) (B : Nat → Nat) (n1 n2 : Nat) (E1 L1 E2 L2 : Nat → Int) (w : World) (hp : p + 1 < n) (hn : n ≤ 400) (hi : i = p ∨ (i = p + 1 ∧ n = p + 2)) (he : At w eb (edC S n n tot) 44) (hS : At w S (pts B n) 26)
    (a1 : 0 < n1) (a2 : n1 ≤ 43) (b1 : 0 < n2) (b2 : n2 ≤ 43) (hl : At w (B p) (leafA 0 n1 E1 L1) 36) (hr : At w (B (p + 1)) (leafA 0 n2 E2 L2) 36) (hm : n1 + n2 ≤ 43) :
    Calls Yba.prog 5 #[.pointer (some ⟨eb, 0, none⟩), .int .i64 i] w fun e w' => e = .returned (.tuple #[]) ∧ ∃ c, JoinLo w eb S n p tot B n1 n2 E1 L1 E2 L2 c w' := by
  obtain ⟨k, rfl⟩ : ∃ k, n = k + 1 := ⟨n - 1, by omega⟩
  have fin : ∀ w' c, w.heap.size ≤ c → At w' eb (edC S k (k + 1) tot) 44 → At w' S ((pts (dl (fun j => if j = p then c else B j) p) (k + 1)).setIfInBounds k (.pointer none)) 26 →
      At w' c (leafA 1 ((n1 + n2 : Nat) : Int) (zap (n1 + n2) n1 (fst (n1 + n2) (cat2 n1 E1 E2) E1)) (fst (n1 + n2) (cat2 n1 L1 L2) L1)) 36 → Keep2 S eb w w' → (Ending.returned (.tuple #[]) = .returned (.tuple #[]) ∧ ∃ c, JoinLo w eb S (k + 1) p tot B n1 n2 E1 L1 E2 L2 c w') :=
    fun w' c h1 h2 h3 h4 h5 => ⟨rfl, c, h1, h2, join_row (by omega) h3, h4, h5⟩
  rcases hi with rfl | ⟨rfl, hk⟩
  · exact rejoin_Alo eb S k i tot B n1 n2 E1 L1 E2 L2 w (by omega) (by omega) he hS a1 a2 b1 b2 _ _ rfl rfl hl hr hS.lt he.lt _ (fun _ => fin) hm
  · have hk' : k = p + 1 := by omega
    have h := rejoin_Blo eb S k p tot B n1 n2 E1 L1 E2 L2 w (by omega) (by omega) hk' he hS a1 a2 b1 b2 _ _ rfl rfl hl hr hS.lt he.lt (fun e w' => e = .returned (.tuple #[]) ∧ ∃ c, JoinLo w eb S (k + 1) p tot B n1 n2 E1 L1 E2 L2 c w') (fun _ => fin) hm
    rw [show ((k : Nat) : Int) = ((p + 1 : Nat) : Int) by rw [hk']] at h
    exact h
end Go.Proofs.Ybulkddxi
