import Derived.Test.YbulkddxiJoin2
import Derived.Deep.OwnRows
namespace Go.Proofs.Ybulkddxi
open Go.RowKit
set_option linter.unusedVariables false
set_option linter.unusedSimpArgs false

/-- How many entries stand ahead of leaf a. -/
def st (sz : Nat → Nat) : Nat → Nat
  | 0 => 0
  | a + 1 => st sz a + sz a
/-- A leaf's numbers, the first j written. -/
def num (s j : Nat) : Nat → Int := fun x => if x < j then ((s + x + 1 : Nat) : Int) else 0
theorem num_upd (s j : Nat) : upd (num s j) j ((s + j + 1 : Nat) : Int) = num s (j + 1) := by
  funext x
  unfold upd num
  by_cases h : x = j
  · subst h; rw [if_pos rfl, if_pos (by omega)]
  · rw [if_neg h]
    by_cases h2 : x < j
    · rw [if_pos h2, if_pos (by omega)]
    · rw [if_neg h2, if_neg (by omega)]
theorem st_le (sz : Nat → Nat) (h : ∀ j, sz j ≤ 43) : ∀ a, st sz a ≤ 43 * a
  | 0 => Nat.le_refl _
  | a + 1 => by have := st_le sz h a; have := h a; unfold st; omega
/-- The counts of the leaves, out of the numbers that came in. -/
def szOf (len : Nat) (zs : Nat → Int) : Nat → Nat := fun j => if j < len then 1 + (zs j).toNat % 43 else 1
theorem szOf_le (len : Nat) (zs : Nat → Int) (j : Nat) : szOf len zs j ≤ 43 := by unfold szOf; split <;> omega
theorem szOf_pos (len : Nat) (zs : Nat → Int) (j : Nat) : 0 < szOf len zs j := by unfold szOf; split <;> omega
def szl (sz : Nat → Nat) (k : Nat) : List Value := (List.range k).map fun j => Value.int .i64 (sz j : Nat)
theorem szl_snoc (sz : Nat → Nat) (k : Nat) : szl sz k ++ [Value.int .i64 (sz k : Nat)] = szl sz (k + 1) := by
  unfold szl; rw [List.range_succ, List.map_append]; rfl
theorem szl_at (sz : Nat → Nat) {k j : Nat} (h : j < k) : (szl sz k)[j]? = some (.int .i64 (sz j : Nat)) := by simp [szl, h]
theorem info3 : (Yba.prog.info? 3).map (fun i => (i.zero, i.size, i.bytes)) = some (some (.int .i64 0), 1, 8) := by kernel_rfl
theorem own_slice {w : World} {base e size n : Nat} {v : Value} {xs : List Value} (h : w.ownsRow base e size v n xs) : ∃ a cap, v = .slice a n cap := by
  rcases h.2 with ⟨rfl, rfl⟩ | ⟨g, cap, cur, rfl, _⟩
  · exact ⟨none, 0, rfl⟩
  · exact ⟨_, _, rfl⟩
def vlen : Value → Nat
  | .slice _ n _ => n
  | _ => 0
def ptr? (b : Nat) : Value := .pointer (some ⟨b, 0, none⟩)
/-- The row of leaves, the first a laid. -/
def prow (B : Nat → Nat) (a n : Nat) : Array Value := (Array.range n).map fun j => if j < a then .pointer (some ⟨B j, 0, none⟩) else .pointer none
theorem prow_size (B : Nat → Nat) (a n : Nat) : (prow B a n).size = n := by simp [prow]
theorem prow_at (B : Nat → Nat) {a n j : Nat} (h : j < n) : (prow B a n)[j]? = some (if j < a then .pointer (some ⟨B j, 0, none⟩) else .pointer none) := by simp [prow, h]
theorem prow_set (B : Nat → Nat) {a n : Nat} (c : Nat) (h : a < n) : (prow B a n).setIfInBounds a (.pointer (some ⟨c, 0, none⟩)) = prow (fun j => if j = a then c else B j) (a + 1) n := by
  apply Array.ext_getElem?
  intro j
  by_cases hj : j < n
  · by_cases h1 : j = a
    · subst h1; rw [Array.getElem?_setIfInBounds_self_of_lt (by rw [prow_size]; exact hj), prow_at _ hj, if_pos (by omega)]; simp
    · rw [Array.getElem?_setIfInBounds_ne (by omega), prow_at _ hj, prow_at _ hj]
      by_cases h2 : j < a
      · rw [if_pos h2, if_pos (by omega)]; simp [h1]
      · rw [if_neg h2, if_neg (by omega)]
  · rw [Array.getElem?_eq_none (by simp [prow_size]; omega), Array.getElem?_eq_none (by rw [prow_size]; omega)]
theorem prow_full (B : Nat → Nat) (n : Nat) : prow B n n = pts B n := by
  apply Array.ext_getElem?
  intro j
  by_cases hj : j < n
  · rw [prow_at _ hj, pts_at _ hj, if_pos hj]
  · rw [Array.getElem?_eq_none (by rw [prow_size]; omega), Array.getElem?_eq_none (by rw [pts_size]; omega)]
/-- What stands when the first a leaves are built. -/
def Bd (w : World) (sz : Nat → Nat) (S n a g : Nat) (wr : World) : Prop :=
  ∃ B : Nat → Nat, At wr S (prow B a n) 26 ∧ (∀ j, j < a → At wr (B j) (leafA 0 (sz j : Nat) (num (st sz j) (sz j)) (num (st sz j) (sz j))) 36 ∧ S < B j) ∧
    (∀ j, j < n → wr.cell? ⟨g, j, none⟩ = some (.int .i64 (sz j : Nat))) ∧ Below w.heap.size w wr ∧ w.heap.size ≤ S ∧ g < S
theorem Bd.start {w wr : World} {sz : Nat → Nat} {n g : Nat} (h : Below w.heap.size w wr) (lg : g < wr.heap.size) (hz : ∀ j, j < n → wr.cell? ⟨g, j, none⟩ = some (.int .i64 (sz j : Nat))) :
    Bd w sz wr.heap.size n 0 g (wr.alloc (.cells (madeCells #[.pointer none] n) 26)) := by
  refine ⟨fun _ => 0, ?_, fun j hj => absurd hj (Nat.not_lt_zero _), fun j hj => cell_keep (hz j hj) (Below.heap_alloc _ _ _ lg), h.alloc h.size _, h.size, lg⟩
  have e : madeCells #[Value.pointer none] n = prow (fun _ => 0) 0 n := by
    apply Array.ext_getElem?
    intro j
    by_cases hj : j < n
    · rw [prow_at _ hj, if_neg (by omega)]; simp [madeCells, hj, Nat.mod_one]
    · rw [Array.getElem?_eq_none (by rw [size_madeCells]; omega), Array.getElem?_eq_none (by rw [prow_size]; omega)]
  rw [e]
  exact At.new _ _ _
theorem num_zero (s : Nat) : num s 0 = fun _ => 0 := by funext x; unfold num; rw [if_neg (by omega)]
/-- The numbers that came in. -/
def Come (w : World) (b off n : Nat) (zs : Nat → Int) : Prop := ∀ i, i < n → w.cell? ⟨b, off + i, none⟩ = some (.int .u8 (zs i)) ∧ 0 ≤ zs i ∧ zs i ≤ 255
/-- The registry's row behind rejoin: q leaves whose entries are numbered on, tot in all. -/
def Got (w : World) (S q tot : Nat) : Prop := ∃ (G nn ss : Nat → Nat) (ed : Nat → Int) (LL : Nat → Nat → Int), ss 0 = 0 ∧ ss q = tot ∧ ∀ y, y < q → w.cell? ⟨S, y, none⟩ = some (.pointer (some ⟨G y, 0, none⟩)) ∧
  At w (G y) (leafA (ed y) (nn y : Nat) (num (ss y) (nn y)) (LL y)) 36 ∧ (∀ z, z < nn y → LL y z = ((ss y + z + 1 : Nat) : Int)) ∧ 0 < nn y ∧ nn y ≤ 43 ∧ ss (y + 1) = ss y + nn y ∧ ss y ≤ 13000
theorem join_num (s n1 n2 : Nat) {h : Nat} (hh : h ≤ n1 + n2) : zap h n1 (fst h (cat2 n1 (num s n1) (num (s + n1) n2)) (num s n1)) = num s h := by
  funext y
  unfold zap fst cat2 num
  by_cases h1 : y < h
  · rw [if_neg (by omega), if_pos h1, if_pos h1]
    by_cases h2 : y < n1
    · rw [if_pos h2, if_pos h2]
    · rw [if_neg h2, if_pos (by omega)]; congr 1; omega
  · rw [if_neg (c := y < h) h1]
    by_cases h2 : h ≤ y ∧ y < n1
    · rw [if_pos h2, if_neg h1]
    · rw [if_neg h2, if_neg h1, if_neg (by omega)]
theorem join_len (s n1 n2 : Nat) {h : Nat} (hh : h ≤ n1 + n2) : ∀ z, z < h → fst h (cat2 n1 (num s n1) (num (s + n1) n2)) (num s n1) z = ((s + z + 1 : Nat) : Int) := by
  intro z hz
  unfold fst cat2 num
  rw [if_pos hz]
  by_cases h2 : z < n1
  · rw [if_pos h2, if_pos h2]
  · rw [if_neg h2, if_pos (by omega)]; congr 1; omega
theorem got_lo {w : World} {sz B : Nat → Nat} {S q x c m : Nat} (hx : x < q) (hq : q ≤ 301) (hsle : ∀ j, sz j ≤ 43) (hspos : ∀ j, 0 < sz j) (hm : sz x + sz (x + 1) = m) (hm43 : m ≤ 43)
    (hS : ∀ j, j < q → w.cell? ⟨S, j, none⟩ = some (.pointer (some ⟨if j < x then B j else if j = x then c else B (j + 1), 0, none⟩)))
    (hl : ∀ j, j < q + 1 → At w (B j) (leafA 0 (sz j : Nat) (num (st sz j) (sz j)) (num (st sz j) (sz j))) 36)
    (hC : At w c (leafA 1 (m : Nat) (zap m (sz x) (fst m (cat2 (sz x) (num (st sz x) (sz x)) (num (st sz (x + 1)) (sz (x + 1)))) (num (st sz x) (sz x)))) (fst m (cat2 (sz x) (num (st sz x) (sz x)) (num (st sz (x + 1)) (sz (x + 1)))) (num (st sz x) (sz x)))) 36) :
    Got w S q (st sz (q + 1)) := by
  have est : st sz (x + 1) = st sz x + sz x := rfl
  have stb : ∀ j, j ≤ 302 → st sz j ≤ 13000 := fun j hj => by have := st_le sz hsle j; omega
  rw [est, ← hm] at hC
  rw [join_num _ _ _ (Nat.le_refl _)] at hC
  refine ⟨fun y => if y < x then B y else if y = x then c else B (y + 1), fun y => if y < x then sz y else if y = x then m else sz (y + 1), fun y => if y ≤ x then st sz y else st sz (y + 1), fun y => if y = x then 1 else 0,
    fun y => if y < x then num (st sz y) (sz y) else if y = x then fst (sz x + sz (x + 1)) (cat2 (sz x) (num (st sz x) (sz x)) (num (st sz x + sz x) (sz (x + 1)))) (num (st sz x) (sz x)) else num (st sz (y + 1)) (sz (y + 1)), by simp [st], by simp; intro h; omega, fun y hy => ?_⟩
  by_cases h1 : y < x
  · simp only [h1, if_true, show y ≤ x by omega, show ¬ y = x by omega, if_false, show y + 1 ≤ x by omega]
    refine ⟨by have := hS y hy; rw [if_pos h1] at this; exact this, hl y (by omega), fun z hz => by unfold num; rw [if_pos hz], hspos y, hsle y, rfl, stb y (by omega)⟩
  · by_cases h2 : y = x
    · subst h2
      simp only [Nat.lt_irrefl, if_false, if_true, Nat.le_refl, show ¬ y + 1 ≤ y by omega]
      rw [hm] at hC
      refine ⟨by have := hS y hy; rw [if_neg h1, if_pos rfl] at this; exact this, ?_, ?_, by have := hspos y; omega, hm43, ?_, stb y (by omega)⟩
      · rw [hm]; exact hC
      · intro z hz; exact join_len _ _ _ (Nat.le_refl _) z (by omega)
      · show st sz (y + 1) + sz (y + 1) = _; omega
    · simp only [h1, h2, if_false, show ¬ y ≤ x by omega, show ¬ y + 1 ≤ x by omega]
      refine ⟨by have := hS y hy; rw [if_neg h1, if_neg h2] at this; exact this, hl (y + 1) (by omega), fun z hz => by unfold num; rw [if_pos hz], hspos _, hsle _, rfl, stb _ (by omega)⟩
theorem same_ptr {tp te : TypeId} (p : Option Addr) (w : World) (hp : Yba.prog.underlying tp = some (.pointer te)) (hte : (Yba.prog.info? te).isSome = true) : (Op.equal tp (.pointer p) (.pointer p)).run Yba.prog w = .ok true w := by
  obtain ⟨j, hj⟩ := Option.isSome_iff_exists.1 hte
  have h : ∀ d : Nat, (Op.equalIn (d + 1) tp (.pointer p) (.pointer p)).run Yba.prog w = .ok true w := fun d => by
    cases p with
    | none => simp [Op.equalIn, run_underlying hp]
    | some a => simp [Op.equalIn, run_underlying hp, sizeOf, typeInfo, hj, run_sameAddr_same]
  exact h 9999
theorem neq26 (p : Option Addr) (w : World) : (binOp .neq 26 (.pointer p) (.pointer p)).run Yba.prog w = .ok (.bool false) w := by
  simp only [binOp]; simp [same_ptr p w Yba.underlying26 (by kernel_rfl)]
/-- Two leaves apart. -/
theorem eql26 {w : World} {b c : Nat} {x y : Array Value} (hb : At w b x 36) (hc : At w c y 36) (h : b ≠ c) (t : Nat) : (binOp .eql 26 (.pointer (some ⟨b, 0, none⟩)) (.pointer (some ⟨c, 0, none⟩))).run Yba.prog (w.drewN t) = .ok (.bool false) (w.drewN t) := by
  obtain ⟨j, hj, hjs⟩ := Option.map_eq_some_iff.1 size36
  exact run_eql_ptr_other (P := Yba.prog) (w.drewN t) (a := ⟨b, 0, none⟩) (b := ⟨c, 0, none⟩) Yba.underlying26 hj (by rw [hjs]; decide) (by simp [h]) hb hc
end Go.Proofs.Ybulkddxi
