import Derived.Test.YbulkddxiCat
namespace Go.Proofs.Ybulkddxi
open Go.RowKit
set_option linter.unusedVariables false
set_option linter.unusedSimpArgs false

/-- A row with a run of cells put in. -/
def spl (cur : Array Value) (o : Nat) (cs : List Value) : Array Value := (cur.toList.take o ++ cs ++ cur.toList.drop (o + cs.length)).toArray
theorem spl_at {cur : Array Value} {o : Nat} {cs : List Value} (h : o + cs.length ≤ cur.size) (i : Nat) : (spl cur o cs)[i]? = if o ≤ i ∧ i < o + cs.length then cs[i - o]? else cur[i]? := by
  unfold spl
  rw [List.getElem?_toArray]
  have l1 : (cur.toList.take o).length = o := by simp; omega
  by_cases h1 : i < o
  · rw [if_neg (by omega), List.append_assoc, List.getElem?_append_left (by omega), List.getElem?_take_of_lt h1]; simp
  · by_cases h2 : i < o + cs.length
    · rw [if_pos (by omega), List.append_assoc, List.getElem?_append_right (by omega), l1, List.getElem?_append_left (by omega)]
    · rw [if_neg (by omega), List.getElem?_append_right (by simp; omega)]
      simp only [List.length_append, l1]
      rw [List.getElem?_drop]
      have : o + cs.length + (i - (o + cs.length)) = i := by omega
      rw [this]; simp
theorem spl_size {cur : Array Value} {o : Nat} {cs : List Value} (h : o + cs.length ≤ cur.size) : (spl cur o cs).size = cur.size := by
  unfold spl; simp; omega

theorem run_copy_spl {P : Program} (w : World) (dT sT ty elem : TypeId) (size g o dLen dCap : Nat) (a : Addr) (sLen sCap m : Nat) (cur : Array Value) (t : TypeId) (cs : List Value)
    (hu : P.underlying dT = some (.slice elem)) (hs : (P.info? elem).map (·.size) = some size)
    (hg : w.heap[g]? = some (.cells cur t (0, 0))) (hm : Nat.min sLen dLen = m) (hn : cs.length = m * size)
    (hsrc : ∀ j v, cs[j]? = some v → w.cell? (a.add j) = some v) (hfit : o + cs.length ≤ cur.size) (h1 : ∀ v ∈ cs, v.oneCell' = true) :
    (Builtin.copy_ #[dT, sT] ty #[.slice (some ⟨g, o, none⟩) dLen dCap, .slice (some a) sLen sCap]).run P w = .ok (goInt m) (w.setRow g (spl cur o cs)) := by
  have hl := run_loadCells_list (P := P) w a cs hsrc
  have hst := run_storeCells_at P g o t cs 0 cur w hg (by simpa using hfit) h1
  rw [hn] at hl
  cases hq : P.info? elem with
  | none => simp [hq] at hs
  | some i =>
    have hi : i.size = size := by simpa [hq] using hs
    have hm' : min sLen dLen = m := hm
    simp [Builtin.copy_, run_underlying hu, Builtin.lenOf, Builtin.firstCells, sizeOf, typeInfo, hq, hi, hm', hl, hst, spl]

theorem wpList_copy_spl {P : Program} (w : World) {ops : Array Oper} {rest : List Oper} {op : Oper} {a : Act} {Q : Exit → Act → World → Prop} (hgd : op.guard = none) (d s : Operand) (dT sT : TypeId)
    (ho : op.op = .call { callee := .builtin .copy, args := #[d, s], argTypes := #[dT, sT] }) (elem : TypeId) (size g o dLen dCap : Nat) (ad : Addr) (sLen sCap m : Nat) (cur : Array Value) (t : TypeId) (cs : List Value)
    (hd : a.eval d = .slice (some ⟨g, o, none⟩) dLen dCap) (hsv : a.eval s = .slice (some ad) sLen sCap)
    (hu : P.underlying dT = some (.slice elem)) (hs : (P.info? elem).map (·.size) = some size)
    (hg : w.heap[g]? = some (.cells cur t (0, 0))) (hm : Nat.min sLen dLen = m) (hn : cs.length = m * size)
    (hsrc : ∀ j v, cs[j]? = some v → w.cell? (ad.add j) = some v) (hfit : o + cs.length ≤ cur.size) (h1 : ∀ v ∈ cs, v.oneCell' = true)
    (h : wpList P ops Q rest (a.put op.dst (.int .i64 m)) (w.setRow g (spl cur o cs))) : wpList P ops Q (op :: rest) a w := by
  refine wpList_plain hgd fun K hK => ?_
  have hr := run_copy_spl (P := P) w dT sT op.type elem size g o dLen dCap ad sLen sCap m cur t cs hu hs hg hm hn hsrc hfit h1
  unfold Oper.wp execOp
  simp only [ho, resolve, invoke, builtin, Sem.run_bind, Sem.run_pure, Result.andThen_ok, List.map_toArray, List.map_cons, List.map_nil, hd, hsv, hr]
  exact hK _ _ h

theorem run_clear_spl {P : Program} (w : World) (dT ty elem : TypeId) (i : TypeInfo) (z : Value) (g o n cap : Nat) (cur : Array Value) (t : TypeId)
    (hu : P.underlying dT = some (.slice elem)) (hi : P.info? elem = some i) (hz : i.zero = some z) (hn : 0 < n)
    (hg : w.heap[g]? = some (.cells cur t (0, 0))) (hfit : o + n * z.cells.size ≤ cur.size) (h1 : ∀ v ∈ (Builtin.zeroCells z.cells n).toList, v.oneCell' = true) :
    (Builtin.clear_ #[dT] ty #[.slice (some ⟨g, o, none⟩) n cap]).run P w = .ok (.tuple #[]) (w.setRow g (spl cur o (Builtin.zeroCells z.cells n).toList)) := by
  have hst := run_storeCells_at P g o t (Builtin.zeroCells z.cells n).toList 0 cur w hg (by simpa [size_zeroCells] using hfit) h1
  obtain ⟨n', rfl⟩ : ∃ n', n = n' + 1 := ⟨n - 1, by omega⟩
  simp [Builtin.clear_, run_underlying hu, zeroValue, typeInfo, hi, hz, hst, spl]

/-! ### Entries and lengths as lists of cells -/
def qs (X : Nat → Int) (m : Nat) : List Value := (List.range (m * 13)).map fun i => qcell (X (i / 13)) (i % 13)
def ls (Y : Nat → Int) (m : Nat) : List Value := (List.range m).map fun j => Value.int .i32 (Y j)
theorem qs_len (X : Nat → Int) (m : Nat) : (qs X m).length = m * 13 := by simp [qs]
theorem ls_len (X : Nat → Int) (m : Nat) : (ls X m).length = m * 1 := by simp [ls]
theorem qs_at (X : Nat → Int) {m i : Nat} (h : i < m * 13) : (qs X m)[i]? = some (qcell (X (i / 13)) (i % 13)) := by simp [qs, h]
theorem ls_at (X : Nat → Int) {m i : Nat} (h : i < m) : (ls X m)[i]? = some (.int .i32 (X i)) := by simp [ls, h]
theorem qcell_one (x : Int) (r : Nat) : (qcell x r).oneCell' = true := by unfold qcell; split <;> rfl
theorem qs_one (X : Nat → Int) (m : Nat) : ∀ u ∈ qs X m, u.oneCell' = true := by
  intro u hu
  simp only [qs, List.mem_map] at hu
  obtain ⟨i, _, rfl⟩ := hu
  exact qcell_one _ _
theorem ls_one (X : Nat → Int) (m : Nat) : ∀ u ∈ ls X m, u.oneCell' = true := by
  intro u hu
  simp only [ls, List.mem_map] at hu
  obtain ⟨i, _, rfl⟩ := hu
  rfl
/-- The first m places anew. -/
def fst (m : Nat) (X E : Nat → Int) : Nat → Int := fun j => if j < m then X j else E j
theorem leafA_fillE (ed n : Int) (E L X : Nat → Int) {m : Nat} (hm : m ≤ 43) : spl (leafA ed n E L) 2 (qs X m) = leafA ed n (fst m X E) L := by
  have hf : 2 + (qs X m).length ≤ (leafA ed n E L).size := by rw [qs_len, leafA_size]; omega
  refine leafA_ext (by rw [spl_size hf, leafA_size]) fun i hi => ?_
  rw [spl_at hf, qs_len]
  by_cases h : 2 ≤ i ∧ i < 2 + m * 13
  · rw [if_pos h, qs_at X (by omega)]
    unfold lcell fst
    rw [if_neg (by omega), if_neg (by omega), if_pos (by omega), if_pos (by omega)]
  · rw [if_neg h, leafA_at _ _ _ _ hi]
    unfold lcell
    by_cases h0 : i = 0
    · simp [h0]
    · by_cases h1 : i = 1
      · simp [h1]
      · rw [if_neg h0, if_neg h1, if_neg h0, if_neg h1]
        by_cases h2 : i < 561
        · rw [if_pos h2, if_pos h2]; unfold fst; rw [if_neg (by omega)]
        · rw [if_neg h2, if_neg h2]
theorem leafA_fillL (ed n : Int) (E L Y : Nat → Int) {m : Nat} (hm : m ≤ 43) : spl (leafA ed n E L) 561 (ls Y m) = leafA ed n E (fst m Y L) := by
  have hf : 561 + (ls Y m).length ≤ (leafA ed n E L).size := by rw [ls_len, leafA_size]; omega
  refine leafA_ext (by rw [spl_size hf, leafA_size]) fun i hi => ?_
  rw [spl_at hf, ls_len]
  by_cases h : 561 ≤ i ∧ i < 561 + m * 1
  · rw [if_pos h, ls_at Y (by omega)]
    unfold lcell fst
    rw [if_neg (by omega), if_neg (by omega), if_neg (by omega), if_pos (by omega)]
  · rw [if_neg h, leafA_at _ _ _ _ hi]
    unfold lcell
    by_cases h2 : i < 561
    · simp [h2]
    · rw [if_neg (by omega), if_neg (by omega), if_neg h2, if_neg (by omega), if_neg (by omega), if_neg h2]; unfold fst; rw [if_neg (by omega)]
def zq : Array Value := #[.string ⟨#[]⟩, .slice none 0 0, .string ⟨#[]⟩, .int .u64 0, .int .u64 0, .slice none 0 0, .slice none 0 0, .slice none 0 0, .int .u64 0, .int .u64 0, .bool false, .int .u64 0, .int .u64 0]
theorem zq_at {r : Nat} (h : r < 13) : zq[r]! = qcell 0 r := by
  have hc : r = 0 ∨ r = 1 ∨ r = 2 ∨ r = 3 ∨ r = 4 ∨ r = 5 ∨ r = 6 ∨ r = 7 ∨ r = 8 ∨ r = 9 ∨ r = 10 ∨ r = 11 ∨ r = 12 := by omega
  rcases hc with rfl | rfl | rfl | rfl | rfl | rfl | rfl | rfl | rfl | rfl | rfl | rfl | rfl <;> rfl
theorem zeros_qs (n : Nat) : (Builtin.zeroCells zq n).toList = qs (fun _ => 0) n := by
  unfold Builtin.zeroCells qs
  have : zq.size = 13 := rfl
  rw [this]
  simp only [Array.toList_map, Array.toList_range]
  apply List.map_congr_left
  intro i _
  exact zq_at (Nat.mod_lt _ (by omega))
/-- Places from a up to b emptied. -/
def zap (a b : Nat) (E : Nat → Int) : Nat → Int := fun j => if a ≤ j ∧ j < b then 0 else E j
theorem leafA_zap (ed n : Int) (E L : Nat → Int) {a b : Nat} (ha : a ≤ b) (hb : b ≤ 43) : spl (leafA ed n E L) (2 + a * 13) (qs (fun _ => 0) (b - a)) = leafA ed n (zap a b E) L := by
  have hf : 2 + a * 13 + (qs (fun _ => 0) (b - a)).length ≤ (leafA ed n E L).size := by rw [qs_len, leafA_size]; omega
  refine leafA_ext (by rw [spl_size hf, leafA_size]) fun i hi => ?_
  rw [spl_at hf, qs_len]
  by_cases h : 2 + a * 13 ≤ i ∧ i < 2 + a * 13 + (b - a) * 13
  · rw [if_pos h, qs_at _ (by omega)]
    unfold lcell zap
    rw [if_neg (by omega), if_neg (by omega), if_pos (by omega), if_pos (by omega), show (i - (2 + a * 13)) % 13 = (i - 2) % 13 by omega]
  · rw [if_neg h, leafA_at _ _ _ _ hi]
    unfold lcell
    by_cases h0 : i = 0
    · simp [h0]
    · by_cases h1 : i = 1
      · simp [h1]
      · rw [if_neg h0, if_neg h1, if_neg h0, if_neg h1]
        by_cases h2 : i < 561
        · rw [if_pos h2, if_pos h2]; unfold zap; rw [if_neg (by omega)]
        · rw [if_neg h2, if_neg h2]

theorem keep_row (c : Nat) (w : World) (a : Array Value) : Keep c w (w.setRow c a) ∧ (w.setRow c a).heap.size = w.heap.size := by
  refine ⟨⟨rfl, rfl, rfl, by simp [World.setRow], fun j h1 h2 => ?_⟩, by simp [World.setRow]⟩
  unfold World.setRow
  simp [Array.getElem?_modify]
  intro h
  exact absurd h.symm h2
theorem keep_cell (c o : Nat) (w : World) (v : Value) : Keep c w (w.setCell ⟨c, o, none⟩ v) ∧ (w.setCell ⟨c, o, none⟩ v).heap.size = w.heap.size :=
  ⟨⟨rfl, rfl, rfl, by simp [World.setCell], fun j _ h2 => Below.heap_setCell _ _ _ _ h2⟩, by simp [World.setCell]⟩
theorem zap_id {a b : Nat} (h : b ≤ a) (E : Nat → Int) : zap a b E = E := by
  funext j; unfold zap; rw [if_neg (by omega)]

set_option maxHeartbeats 1000000 in
theorem fill_any (c g og h oh m cx cy had : Nat) (ed : Int) (E L X Y : Nat → Int) (w : World) (h0 : 0 < m) (hm : m ≤ 43) (hh : had ≤ 43) (hc : At w c (leafA ed had E L) 36) (lg : g < w.heap.size) (lh : h < w.heap.size)
    (sx : ∀ j u, (qs X m)[j]? = some u → w.cell? ((⟨g, og, none⟩ : Addr).add j) = some u) (sy : ∀ j u, (ls Y m)[j]? = some u → w.cell? ((⟨h, oh, none⟩ : Addr).add j) = some u) (ng : g ≠ c) (nh : h ≠ c) :
    Calls Yba.prog 10 #[.pointer (some ⟨c, 0, none⟩), .slice (some ⟨g, og, none⟩) m cx, .slice (some ⟨h, oh, none⟩) m cy] w fun e w' =>
      e = .returned (.tuple #[]) ∧ At w' c (leafA ed m (zap m had (fst m X E)) (fst m Y L)) 36 ∧ Keep c w w' ∧ w'.heap.size = w.heap.size := by
  have c1 : w.cell? ⟨c, 1, none⟩ = some (.int .i64 had) := (hc.cell 1).trans (leafA_at _ _ _ _ (by omega))
  have hs1 := slArr_all Yba.underlying33 sz32 ⟨c, 2, none⟩
  have hs2 := slArr_all Yba.underlying34 sz21 ⟨c, 561, none⟩
  have mi : Nat.min m 43 = m := Nat.min_eq_left hm
  have e1 : (m : Int) ≤ 43 := by omega
  have e2 : (had : Int) ≤ 43 := by omega
  go_enter Yba.func10, Yba.ntmps10
  go_upto_region 2 with (refine wpList_copy_spl _ rfl (.tmp 15) (.tmp 16) 47 47 rfl 32 13 c 2 43 43 ⟨g, og, none⟩ m cx m (leafA ed had E L) 36 (qs X m) rfl rfl Yba.underlying47 sz32 hc mi (qs_len X m) sx (by rw [qs_len, leafA_size]; omega) (qs_one X m) ?_; rw [leafA_fillE _ _ _ _ _ hm]; have hc1 : At (w.setRow c (leafA ed had (fst m X E) L)) c (leafA ed had (fst m X E) L) 36 := hc.row; obtain ⟨kp1, sz1⟩ := keep_row c w (leafA ed had (fst m X E) L); generalize w.setRow c (leafA ed had (fst m X E) L) = w1 at *; have d1 : w1.cell? ⟨c, 1, none⟩ = some (.int .i64 had) := (hc1.cell 1).trans (leafA_at _ _ _ _ (by omega)); have f1 := hc1.frozen 1)
  have hc2 := hc1.set 1 (.int .i64 m)
  rw [leafA_n] at hc2
  have kp2 := kp1.trans (keep_cell c 1 w1 (.int .i64 m)).1
  have sz2 := (keep_cell c 1 w1 (.int .i64 m)).2.trans sz1
  generalize w1.setCell ⟨c, 1, none⟩ (.int .i64 m) = w2 at *
  have sy2 : ∀ j u, (ls Y m)[j]? = some u → w2.cell? ((⟨h, oh, none⟩ : Addr).add j) = some u := fun j u hj => cell_add (sy j u hj) (kp2.block h lh nh)
  clear sx sy d1 f1 hc1 kp1 sz1 c1 hs1
  go_upto_region 3 with (refine wpList_copy_spl _ rfl (.tmp 23) (.tmp 24) 50 50 rfl 21 1 c 561 43 43 ⟨h, oh, none⟩ m cy m (leafA ed m (fst m X E) L) 36 (ls Y m) rfl rfl Yba.underlying50 sz21 hc2 mi (ls_len Y m) sy2 (by rw [ls_len, leafA_size]; omega) (ls_one Y m) ?_; rw [leafA_fillL _ _ _ _ _ hm])
  have hc3 : At (w2.setRow c (leafA ed m (fst m X E) (fst m Y L))) c (leafA ed m (fst m X E) (fst m Y L)) 36 := hc2.row
  have kp3 := kp2.trans (keep_row c w2 (leafA ed m (fst m X E) (fst m Y L))).1
  have sz3 := (keep_row c w2 (leafA ed m (fst m X E) (fst m Y L))).2.trans sz2
  generalize w2.setRow c (leafA ed m (fst m X E) (fst m Y L)) = w3 at *
  clear sy2 hc2 kp2 sz2 hs2
  have d1 : w3.cell? ⟨c, 1, none⟩ = some (.int .i64 m) := (hc3.cell 1).trans (leafA_at _ _ _ _ (by omega))
  by_cases hlt : m < had
  · have hs3 := slArr_lh Yba.underlying33 sz32 c 2 m had (by omega) hh (by omega)
    obtain ⟨i0, hi, hz0, hz1, hz2⟩ := info_parts info32
    have hcl : ∀ ty, (Builtin.clear_ #[47] ty #[.slice (some ⟨c, 2 + m * 13, none⟩) (had - m) (43 - m)]).run Yba.prog w3.drew = .ok (.tuple #[]) (w3.drew.setRow c (leafA ed m (zap m had (fst m X E)) (fst m Y L))) := by
      intro ty
      have h := run_clear_spl (P := Yba.prog) w3.drew 47 ty 32 i0 (.agg zq) c (2 + m * 13) (had - m) (43 - m) (leafA ed m (fst m X E) (fst m Y L)) 36 Yba.underlying47 hi hz0 (by omega) hc3.drew (by show 2 + m * 13 + (had - m) * 13 ≤ _; rw [leafA_size]; omega)
        (by show ∀ v ∈ (Builtin.zeroCells zq (had - m)).toList, v.oneCell' = true; rw [zeros_qs]; exact qs_one _ _)
      rw [show (Value.agg zq).cells = zq from rfl, zeros_qs, leafA_zap _ _ _ _ (by omega) hh] at h
      exact h
    go_upto_region 4 with fail
    go_region
    all_goals (try go_wp2)
    all_goals go_end0
    all_goals exact ⟨rfl, hc3.drew.row, Keep.trans (b := w3.drew) ⟨kp3.os, kp3.tape, kp3.output, kp3.size, kp3.block⟩ (keep_row c w3.drew _).1, (keep_row c w3.drew _).2.trans sz3⟩
  · go_wp2
    go_end0
    rw [zap_id (by omega)]
    exact ⟨rfl, hc3, kp3, sz3⟩
end Go.Proofs.Ybulkddxi
