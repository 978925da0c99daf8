import Derived.Test.YbulkddxiLawBase
namespace Go.Proofs.Ybulkddxi
open Go.RowKit
set_option linter.unusedVariables false
set_option linter.unusedSimpArgs false

theorem join_num2 (s n1 n2 : Nat) {h : Nat} (hh : h ≤ n1 + n2) : zap (n1 + n2 - h) n2 (fst (n1 + n2 - h) (fun j => cat2 n1 (num s n1) (num (s + n1) n2) (h + j)) (num (s + n1) n2)) = num (s + h) (n1 + n2 - h) := by
  funext y
  unfold zap fst cat2 num
  by_cases h1 : y < n1 + n2 - h
  · rw [if_neg (by omega), if_pos h1, if_pos h1]
    dsimp only
    by_cases h2 : h + y < n1
    · rw [if_pos h2, if_pos h2]; congr 1; omega
    · rw [if_neg h2, if_pos (by omega)]; congr 1; omega
  · rw [if_neg (c := y < n1 + n2 - h) h1]
    by_cases h2 : n1 + n2 - h ≤ y ∧ y < n2
    · rw [if_pos h2, if_neg h1]
    · rw [if_neg h2, if_neg h1, if_neg (by omega)]
theorem join_len2 (s n1 n2 : Nat) {h : Nat} (hh : h ≤ n1 + n2) (L2 : Nat → Int) : ∀ z, z < n1 + n2 - h → fst (n1 + n2 - h) (fun j => cat2 n1 (num s n1) (num (s + n1) n2) (h + j)) L2 z = ((s + h + z + 1 : Nat) : Int) := by
  intro z hz
  unfold fst cat2 num
  rw [if_pos hz]
  dsimp only
  by_cases h2 : h + z < n1
  · rw [if_pos h2, if_pos h2]; congr 1; omega
  · rw [if_neg h2, if_pos (by omega)]; congr 1; omega
theorem got_hi {w : World} {sz B : Nat → Nat} {S q x c1 c2 m : Nat} (hx : x + 1 < q) (hq : q ≤ 302) (hsle : ∀ j, sz j ≤ 43) (hspos : ∀ j, 0 < sz j) (hm : sz x + sz (x + 1) = m) (hm43 : ¬ m ≤ 43)
    (hS : ∀ j, j < q → w.cell? ⟨S, j, none⟩ = some (.pointer (some ⟨if j = x + 1 then c2 else if j = x then c1 else B j, 0, none⟩)))
    (hl : ∀ j, j < q → At w (B j) (leafA 0 (sz j : Nat) (num (st sz j) (sz j)) (num (st sz j) (sz j))) 36)
    (hC1 : At w c1 (leafA 1 ((m / 2 : Nat) : Int) (zap (m / 2) (sz x) (fst (m / 2) (cat2 (sz x) (num (st sz x) (sz x)) (num (st sz (x + 1)) (sz (x + 1)))) (num (st sz x) (sz x)))) (fst (m / 2) (cat2 (sz x) (num (st sz x) (sz x)) (num (st sz (x + 1)) (sz (x + 1)))) (num (st sz x) (sz x)))) 36)
    (hC2 : At w c2 (leafA 1 ((m - m / 2 : Nat) : Int) (zap (m - m / 2) (sz (x + 1)) (fst (m - m / 2) (fun j => cat2 (sz x) (num (st sz x) (sz x)) (num (st sz (x + 1)) (sz (x + 1))) (m / 2 + j)) (num (st sz (x + 1)) (sz (x + 1))))) (fst (m - m / 2) (fun j => cat2 (sz x) (num (st sz x) (sz x)) (num (st sz (x + 1)) (sz (x + 1))) (m / 2 + j)) (num (st sz (x + 1)) (sz (x + 1))))) 36) :
    Got w S q (st sz q) := by
  have est : st sz (x + 1) = st sz x + sz x := rfl
  have est2 : st sz (x + 2) = st sz (x + 1) + sz (x + 1) := rfl
  have stb : ∀ j, j ≤ 302 → st sz j ≤ 13000 := fun j hj => by have := st_le sz hsle j; omega
  have h1x := hsle x
  have h2x := hsle (x + 1)
  obtain ⟨h, hh⟩ : ∃ h, m / 2 = h := ⟨_, rfl⟩
  have hh1 : h ≤ m := by omega
  rw [est, hh] at hC1 hC2
  rw [← hm] at hC2
  rw [join_num _ _ _ (by omega)] at hC1
  rw [join_num2 _ _ _ (by omega)] at hC2
  refine ⟨fun y => if y = x + 1 then c2 else if y = x then c1 else B y, fun y => if y = x + 1 then m - h else if y = x then h else sz y, fun y => if y = x + 1 then st sz x + h else st sz y, fun y => if y = x + 1 ∨ y = x then 1 else 0,
    fun y => if y = x + 1 then fst (sz x + sz (x + 1) - h) (fun j => cat2 (sz x) (num (st sz x) (sz x)) (num (st sz x + sz x) (sz (x + 1))) (h + j)) (num (st sz x + sz x) (sz (x + 1))) else if y = x then fst h (cat2 (sz x) (num (st sz x) (sz x)) (num (st sz x + sz x) (sz (x + 1)))) (num (st sz x) (sz x)) else num (st sz y) (sz y), by simp [st], by dsimp only; rw [if_neg (by omega)], fun y hy => ?_⟩
  by_cases h1 : y = x + 1
  · subst h1
    simp only [if_true, show ¬ x + 1 + 1 = x + 1 by omega, if_false, true_or]
    refine ⟨by have := hS (x + 1) hy; rw [if_pos rfl] at this; exact this, ?_, ?_, by omega, by omega, ?_, ?_⟩
    · rw [hm] at hC2 ⊢; exact hC2
    · intro z hz; exact join_len2 _ _ _ (by omega) _ z (by omega)
    · show st sz (x + 2) = _; omega
    · have := stb (x + 1) (by omega); have := stb (x + 2) (by omega); omega
  · by_cases h2 : y = x
    · subst h2
      simp only [h1, if_true, if_false, or_true]
      refine ⟨by have := hS y hy; rw [if_neg h1, if_pos rfl] at this; exact this, hC1, ?_, by omega, by omega, trivial, stb y (by omega)⟩
      intro z hz; exact join_len _ _ _ (by omega) z hz
    · simp only [h1, h2, if_false, or_self, show ¬ y + 1 = x + 1 by omega]
      refine ⟨by have := hS y hy; rw [if_neg h1, if_neg h2] at this; exact this, hl y hy, fun z hz => by unfold num; rw [if_pos hz], hspos y, hsle y, rfl, stb y (by omega)⟩
/-- What rejoin leaves where the two leaves share evenly: c1 at p, c2 at p + 1, the rest as it was. -/
def JoinHi (w : World) (eb S n p tot : Nat) (B : Nat → Nat) (n1 n2 : Nat) (E1 L1 E2 L2 : Nat → Int) (c1 c2 : Nat) (w' : World) : Prop :=
  w.heap.size ≤ c1 ∧ w.heap.size ≤ c2 ∧ At w' eb (edC S n n tot) 44 ∧ (∀ j, j < n → w'.cell? ⟨S, j, none⟩ = some (.pointer (some ⟨if j = p + 1 then c2 else if j = p then c1 else B j, 0, none⟩))) ∧
    At w' c1 (leafA 1 (((n1 + n2) / 2 : Nat) : Int) (zap ((n1 + n2) / 2) n1 (fst ((n1 + n2) / 2) (cat2 n1 E1 E2) E1)) (fst ((n1 + n2) / 2) (cat2 n1 L1 L2) L1)) 36 ∧
    At w' c2 (leafA 1 ((n1 + n2 - (n1 + n2) / 2 : Nat) : Int) (zap (n1 + n2 - (n1 + n2) / 2) n2 (fst (n1 + n2 - (n1 + n2) / 2) (fun j => cat2 n1 E1 E2 ((n1 + n2) / 2 + j)) E2)) (fst (n1 + n2 - (n1 + n2) / 2) (fun j => cat2 n1 L1 L2 ((n1 + n2) / 2 + j)) L2)) 36 ∧ Keep2 S eb w w'

end Go.Proofs.Ybulkddxi
