import Derived.Test.YbulkddxiJoin
namespace Go.Proofs.Ybulkddxi
open Go.RowKit
set_option linter.unusedVariables false
set_option linter.unusedSimpArgs false

/-- The edit's eight cells. -/
abbrev edC (S n c tot : Nat) : Array Value := #[.int .u64 1, .slice (some ⟨S, 0, none⟩) n c, .int .i64 tot, .slice none 0 0, .int .i64 0, .map none, .map none, .bool false]
/-- Entries of two leaves, one behind the other. -/
def cat2 (a : Nat) (X Y : Nat → Int) : Nat → Int := fun j => if j < a then X j else Y (j - a)
theorem qs_cat (a b : Nat) (X Y : Nat → Int) : qs X a ++ qs Y b = qs (cat2 a X Y) (a + b) := by
  apply List.ext_getElem?
  intro i
  by_cases h : i < a * 13
  · rw [List.getElem?_append_left (by rw [qs_len]; exact h), qs_at _ h, qs_at _ (by omega)]; unfold cat2; rw [if_pos (by omega)]
  · rw [List.getElem?_append_right (by rw [qs_len]; omega), qs_len]
    by_cases h2 : i < (a + b) * 13
    · rw [qs_at _ (by omega), qs_at _ h2]; unfold cat2; rw [if_neg (by omega), show (i - a * 13) / 13 = i / 13 - a by omega, show (i - a * 13) % 13 = i % 13 by omega]
    · rw [List.getElem?_eq_none (by rw [qs_len]; omega), List.getElem?_eq_none (by rw [qs_len]; omega)]
theorem ls_cat (a b : Nat) (X Y : Nat → Int) : ls X a ++ ls Y b = ls (cat2 a X Y) (a + b) := by
  apply List.ext_getElem?
  intro i
  by_cases h : i < a
  · rw [List.getElem?_append_left (by rw [ls_len]; omega), ls_at _ h, ls_at _ (by omega)]; unfold cat2; rw [if_pos h]
  · rw [List.getElem?_append_right (by rw [ls_len]; omega), ls_len, Nat.mul_one]
    by_cases h2 : i < a + b
    · rw [ls_at _ (by omega), ls_at _ h2]; unfold cat2; rw [if_neg h]
    · rw [List.getElem?_eq_none (by rw [ls_len]; omega), List.getElem?_eq_none (by rw [ls_len]; omega)]
/-- Blocks that were there, but two, are as they were. -/
structure Keep2 (S T : Nat) (w w' : World) : Prop where
  os : w'.os = w.os
  tape : w'.tape = w.tape
  output : w'.output = w.output
  size : w.heap.size ≤ w'.heap.size
  block : ∀ j, j < w.heap.size → j ≠ S → j ≠ T → w'.heap[j]? = w.heap[j]?
theorem below_drewN {n : Nat} {w w' : World} (h : Below n w w') (q : Nat) : Below n w (w'.drewN q) := ⟨h.os, h.tape, h.output, h.size, h.block⟩
theorem qs_pre (X : Nat → Int) {a m j : Nat} {u : Value} (ha : a ≤ m) (h : (qs X a)[j]? = some u) : (qs X m)[j]? = some u := by
  by_cases hj : j < a * 13
  · rw [qs_at X hj] at h; rw [qs_at X (by omega)]; exact h
  · rw [List.getElem?_eq_none (by rw [qs_len]; omega)] at h; cases h
theorem ls_pre (X : Nat → Int) {a m j : Nat} {u : Value} (ha : a ≤ m) (h : (ls X a)[j]? = some u) : (ls X m)[j]? = some u := by
  by_cases hj : j < a
  · rw [ls_at X hj] at h; rw [ls_at X (by omega)]; exact h
  · rw [List.getElem?_eq_none (by rw [ls_len]; omega)] at h; cases h
theorem qs_suf (X : Nat → Int) {a m j : Nat} {u : Value} (ha : a ≤ m) (h : (qs (fun i => X (a + i)) (m - a))[j]? = some u) : (qs X m)[a * 13 + j]? = some u := by
  by_cases hj : j < (m - a) * 13
  · rw [qs_at _ hj] at h; rw [qs_at X (by omega), show (a * 13 + j) / 13 = a + j / 13 by omega, show (a * 13 + j) % 13 = j % 13 by omega]; exact h
  · rw [List.getElem?_eq_none (by rw [qs_len]; omega)] at h; cases h
theorem ls_suf (X : Nat → Int) {a m j : Nat} {u : Value} (ha : a ≤ m) (h : (ls (fun i => X (a + i)) (m - a))[j]? = some u) : (ls X m)[a + j]? = some u := by
  by_cases hj : j < m - a
  · rw [ls_at _ hj] at h; rw [ls_at X (by omega)]; exact h
  · rw [List.getElem?_eq_none (by rw [ls_len]; omega)] at h; cases h
theorem leaf_qs {w : World} {b n : Nat} {ed : Int} {E L : Nat → Int} (h : At w b (leafA ed n E L) 36) (hn : n ≤ 43) : ∀ j u, (qs E n)[j]? = some u → w.cell? ((⟨b, 2, none⟩ : Addr).add j) = some u := by
  intro j u hj
  by_cases hjk : j < n * 13
  · rw [qs_at E hjk] at hj
    rw [Go.WideShapes.add_plain, h.cell, leafA_at _ _ _ _ (by omega)]
    unfold lcell
    rw [if_neg (by omega), if_neg (by omega), if_pos (by omega), show 2 + j - 2 = j by omega]; exact hj
  · rw [List.getElem?_eq_none (by rw [qs_len]; omega)] at hj; cases hj
theorem leaf_ls {w : World} {b n : Nat} {ed : Int} {E L : Nat → Int} (h : At w b (leafA ed n E L) 36) (hn : n ≤ 43) : ∀ j u, (ls L n)[j]? = some u → w.cell? ((⟨b, 561, none⟩ : Addr).add j) = some u := by
  intro j u hj
  by_cases hjk : j < n
  · rw [ls_at L hjk] at hj
    rw [Go.WideShapes.add_plain, h.cell, leafA_at _ _ _ _ (by omega), lcell_len]; exact hj
  · rw [List.getElem?_eq_none (by rw [ls_len]; omega)] at hj; cases hj
theorem own_shape {w : World} {base e size n : Nat} {v : Value} {xs : List Value} (h : w.ownsRow base e size v n xs) (hn : 0 < n) : ∃ g cap, v = .slice (some ⟨g, 0, none⟩) n cap ∧ base ≤ g ∧ g < w.heap.size ∧ n ≤ cap ∧
    ∀ j u, xs[j]? = some u → w.cell? ⟨g, j, none⟩ = some u := by
  rcases h.2 with ⟨_, h0⟩ | ⟨g, cap, cur, hv, hb, hh, h1, h2, h3, h4⟩
  · omega
  · refine ⟨g, cap, hv, hb, (Array.getElem?_eq_some_iff.1 hh).1, h1, fun j u hj => ?_⟩
    simp only [World.cell?, hh]
    rw [← h4] at hj
    have : cur.toList[j]? = some u := by
      by_cases hl : j < n * size
      · rw [List.getElem?_take_of_lt hl] at hj; exact hj
      · rw [List.getElem?_eq_none (by simp; omega)] at hj; cases hj
    simpa using this
end Go.Proofs.Ybulkddxi
