import Derived.Test.YbulkddxiFill
namespace Go.Proofs.Ybulkddxi
open Go.RowKit
set_option linter.unusedVariables false
set_option linter.unusedSimpArgs false

/-- A row of pointers to leaves. -/
def pts (B : Nat → Nat) (k : Nat) : Array Value := (Array.range k).map fun j => .pointer (some ⟨B j, 0, none⟩)
theorem pts_size (B : Nat → Nat) (k : Nat) : (pts B k).size = k := by simp [pts]
theorem pts_at (B : Nat → Nat) {k j : Nat} (h : j < k) : (pts B k)[j]? = some (.pointer (some ⟨B j, 0, none⟩)) := by simp [pts, h]
theorem pts_set (B : Nat → Nat) {k i : Nat} (b : Nat) (hi : i < k) : (pts B k).setIfInBounds i (.pointer (some ⟨b, 0, none⟩)) = pts (fun j => if j = i then b else B j) k := by
  apply Array.ext_getElem?
  intro j
  by_cases hj : j < k
  · by_cases h : j = i
    · subst h; rw [Array.getElem?_setIfInBounds_self_of_lt (by rw [pts_size]; exact hj), pts_at _ hj]; simp
    · rw [Array.getElem?_setIfInBounds_ne (by omega), pts_at _ hj, pts_at _ hj]; simp [h]
  · rw [Array.getElem?_eq_none (by simp [pts_size]; omega), Array.getElem?_eq_none (by rw [pts_size]; omega)]

theorem run_append_spl {P : Program} (w : World) (t ty e : TypeId) (i : TypeInfo) (ht : P.underlying t = some (.slice e)) (hi : P.info? e = some i) (hs : i.size = 1) (g sLen sCap : Nat) (a : Addr) (m c : Nat) (cur : Array Value) (T : TypeId) (news : List Value)
    (hg : w.heap[g]? = some (.cells cur T (0, 0))) (hl : news.length = m) (hnews : ∀ j u, news[j]? = some u → w.cell? (a.add j) = some u) (h1 : ∀ u ∈ news, u.oneCell' = true) (hroom : sLen + m ≤ sCap) (hfit : sLen + m ≤ cur.size) :
    (Builtin.append_ #[t, t] ty #[.slice (some ⟨g, 0, none⟩) sLen sCap, .slice (some a) m c]).run P w = .ok (.slice (some ⟨g, 0, none⟩) (sLen + m) sCap) (w.setRow g (spl cur sLen news)) := by
  have hfc := run_firstCells_some (P := P) w 1 m a m c news (by omega) hnews
  have hst := run_storeCells_at P g sLen T news 0 cur w hg (by simp; omega) h1
  have had : (⟨g, 0, none⟩ : Addr).add sLen = ⟨g, sLen, none⟩ := by rw [Go.WideShapes.add_plain, Nat.zero_add]
  simp [Builtin.append_, run_underlying ht, sizeOf, typeInfo, hi, hs, Builtin.lenOf, hroom, hfc, had, hst, spl]

/-- What Delete leaves in the row. -/
def dl (B : Nat → Nat) (i : Nat) : Nat → Nat := fun j => if j ≤ i then B j else B (j + 1)
theorem pts_del (B : Nat → Nat) {k i : Nat} (hi : i < k) :
    spl (spl (pts B (k + 1)) (i + 1) ((List.range (k - (i + 1))).map fun j => Value.pointer (some ⟨B (i + 2 + j), 0, none⟩))) k [.pointer none] = (pts (dl B i) (k + 1)).setIfInBounds k (.pointer none) := by
  have l1 : i + 1 + ((List.range (k - (i + 1))).map fun j => Value.pointer (some ⟨B (i + 2 + j), 0, none⟩)).length ≤ (pts B (k + 1)).size := by simp [pts_size]; omega
  have l2 : k + [Value.pointer none].length ≤ (spl (pts B (k + 1)) (i + 1) ((List.range (k - (i + 1))).map fun j => Value.pointer (some ⟨B (i + 2 + j), 0, none⟩))).size := by rw [spl_size l1, pts_size]; simp
  apply Array.ext_getElem?
  intro j
  rw [spl_at l2, spl_at l1]
  by_cases hj : j < k + 1
  · by_cases h : j = k
    · subst h
      rw [if_pos (by simp), Array.getElem?_setIfInBounds_self_of_lt (by rw [pts_size]; exact hj)]; simp
    · rw [if_neg (by simp; omega), Array.getElem?_setIfInBounds_ne (by omega), pts_at _ hj, pts_at _ hj]
      simp only [List.length_map, List.length_range]
      unfold dl
      by_cases h2 : i + 1 ≤ j ∧ j < i + 1 + (k - (i + 1))
      · rw [if_pos h2, if_neg (by omega), List.getElem?_map, List.getElem?_range (by omega)]
        have e : i + 2 + (j - (i + 1)) = j + 1 := by omega
        simp only [Option.map_some, e]
      · rw [if_neg h2, if_pos (by omega)]
  · rw [if_neg (by simp; omega), if_neg (by simp; omega), Array.getElem?_eq_none (by rw [pts_size]; omega), Array.getElem?_eq_none (by simp [pts_size]; omega)]

theorem info26 : (Yba.prog.info? 26).map (fun i => (i.zero, i.size, i.bytes)) = some (some (.pointer none), 1, 8) := by kernel_rfl

theorem z1 : (Builtin.zeroCells (Value.pointer none).cells 1).toList = [Value.pointer none] := by kernel_rfl
/-- An append whose run is known, as one step of a region that draws. -/
theorem step_append_known {P : Program} {ops : Array Oper} {o : Oper} {a : Act} {w w' : World} {K : Act → World → Prop} {Q : Exit → Act → World → Prop} {E : Prop}
    (hg : o.guard = none) (s x : Operand) (t : TypeId) (hop : o.op = Op.call { callee := Callee.builtin Builtin.append, args := #[s, x], argTypes := #[t, t] }) (v u r : Value) (hs : a.eval s = v) (hx : a.eval x = u)
    (hr : (Builtin.append_ #[t, t] o.type #[v, u]).run P w = .ok r w') (hK : K (a.put o.dst r) w') :
    if Region.wanted o (yielded ops a.tmps) = true then Oper.wp P o a w K Q else E := by
  have hw : Region.wanted o (yielded ops a.tmps) = true := by simp [Region.wanted, hg]
  rw [if_pos hw]
  unfold Oper.wp
  simp [execOp, hop, resolve, invoke, builtin, hs, hx, hr, Result.andThen]
  exact hK

set_option maxHeartbeats 1000000 in
theorem del_any (S i j1 j2 k : Nat) (B : Nat → Nat) (w : World) (hj1 : j1 = i + 1) (hj2 : j2 = i + 2) (hi : i < k) (hk : k ≤ 400) (hS : At w S (pts B (k + 1)) 26) :
    Calls Yba.prog 11 #[.slice (some ⟨S, 0, none⟩) (k + 1) (k + 1), .int .i64 j1, .int .i64 j2] w fun e w' =>
      e = .returned (.slice (some ⟨S, 0, none⟩) k (k + 1)) ∧ At w' S ((pts (dl B i) (k + 1)).setIfInBounds k (.pointer none)) 26 ∧ Keep S w w' ∧ w'.heap.size = w.heap.size := by
  obtain ⟨i0, hi0, hz0, hz1, hz2⟩ := info_parts info26
  have e1 : (i : Int) < (k : Int) := by omega
  have e2 : (k : Int) ≤ 400 := by omega
  have news1 : ∀ u ∈ ((List.range (k - (i + 1))).map fun j => Value.pointer (some ⟨B (i + 2 + j), 0, none⟩)), u.oneCell' = true := by
    intro u hu
    simp only [List.mem_map] at hu
    obtain ⟨j, _, rfl⟩ := hu
    rfl
  have hap : ∀ ty, (Builtin.append_ #[25, 25] ty #[.slice (some ⟨S, 0, none⟩) (i + 1) (k + 1), .slice (some (if k + 1 = i + 2 then ⟨S, 0, none⟩ else ⟨S, i + 2, none⟩)) (k + 1 - (i + 2)) (k + 1 - (i + 2))]).run Yba.prog w.drew =
      .ok (.slice (some ⟨S, 0, none⟩) k (k + 1)) (w.drew.setRow S (spl (pts B (k + 1)) (i + 1) ((List.range (k - (i + 1))).map fun j => Value.pointer (some ⟨B (i + 2 + j), 0, none⟩)))) := by
    intro ty
    have h := run_append_spl (P := Yba.prog) w.drew 25 ty 26 i0 Yba.underlying25 hi0 hz1 S (i + 1) (k + 1) (if k + 1 = i + 2 then ⟨S, 0, none⟩ else ⟨S, i + 2, none⟩) (k + 1 - (i + 2)) (k + 1 - (i + 2)) (pts B (k + 1)) 26
      ((List.range (k - (i + 1))).map fun j => Value.pointer (some ⟨B (i + 2 + j), 0, none⟩)) hS.drew (by rw [List.length_map, List.length_range]; omega) (by
        intro j u hj
        by_cases hj2 : j < k - (i + 1)
        · rw [if_neg (by omega), Go.WideShapes.add_plain, hS.drew.cell, pts_at _ (by omega)]
          rw [List.getElem?_map, List.getElem?_range hj2] at hj
          exact hj
        · rw [List.getElem?_eq_none (by simp; omega)] at hj; cases hj) news1 (by omega) (by rw [pts_size]; omega)
    rw [show i + 1 + (k + 1 - (i + 2)) = k by omega] at h
    exact h
  have hcl : ∀ row : Array Value, row.size = k + 1 → ∀ ty w', At w' S row 26 → (Builtin.clear_ #[25] ty #[.slice (some ⟨S, k, none⟩) 1 1]).run Yba.prog w' = .ok (.tuple #[]) (w'.setRow S (spl row k [.pointer none])) := by
    intro row hrow ty w' hw'
    have h := run_clear_spl (P := Yba.prog) w' 25 ty 26 i0 (.pointer none) S k 1 1 row 26 Yba.underlying25 hi0 hz0 (by omega) hw' (by show k + 1 * 1 ≤ _; omega) (by
      intro v hv
      rw [z1] at hv; simp at hv; subst hv; rfl)
    rw [z1] at h
    exact h
  have hpd := pts_del B hi
  have sz1 : (spl (pts B (k + 1)) (i + 1) ((List.range (k - (i + 1))).map fun j => Value.pointer (some ⟨B (i + 2 + j), 0, none⟩))).size = k + 1 := by rw [spl_size (by simp [pts_size]; omega), pts_size]
  generalize hr1 : spl (pts B (k + 1)) (i + 1) ((List.range (k - (i + 1))).map fun j => Value.pointer (some ⟨B (i + 2 + j), 0, none⟩)) = row at *
  have hlastrow : k = i + 1 → row = pts B (k + 1) := by
    intro h
    rw [← hr1, h]
    simp [spl]
  clear news1 hr1
  have hap2 : ∀ ty, (Builtin.append_ #[25, 25] ty #[.slice (some ⟨S, 0, none⟩) j1 (k + 1), .slice (some (if k + 1 = j2 then ⟨S, 0, none⟩ else ⟨S, j2, none⟩)) (k + 1 - j2) (k + 1 - j2)]).run Yba.prog w.drew = .ok (.slice (some ⟨S, 0, none⟩) k (k + 1)) (w.drew.setRow S row) := by
    intro ty; rw [hj1, hj2]; exact hap ty
  have c1 : j1 ≤ k := by omega
  have c2 : j2 ≤ k + 1 := by omega
  have c3 : ¬ (j1 = j2) := by omega
  have c4 : j1 ≤ j2 := by omega
  have c5 : j1 ≤ k + 1 := by omega
  have d1 : (j1 : Int) ≤ (k : Int) + 1 := by omega
  have d2 : (j2 : Int) ≤ (k : Int) + 1 := by omega
  have d3 : (j1 : Int) ≤ (j2 : Int) := by omega
  have d4 : ¬ ((j1 : Int) = (j2 : Int)) := by omega
  have fin : ∀ w1, At w1 S row 26 → Keep S w w1 → w1.heap.size = w.heap.size → At (w1.setRow S (spl row k [.pointer none])) S ((pts (dl B i) (k + 1)).setIfInBounds k (.pointer none)) 26 ∧ Keep S w (w1.setRow S (spl row k [.pointer none])) ∧ (w1.setRow S (spl row k [.pointer none])).heap.size = w.heap.size := by
    intro w1 h1 h2 h3
    have kr := keep_row S w1 (spl row k [.pointer none])
    refine ⟨?_, h2.trans kr.1, kr.2.trans h3⟩
    rw [← hpd]
    exact h1.row
  have kd : Keep S w w.drew := ⟨rfl, rfl, rfl, Nat.le_refl _, fun _ _ _ => rfl⟩
  have hk2 : k = i + 1 ↔ k + 1 = j2 := by omega
  have hj1' : k + 1 = j2 → j1 = k := by omega
  clear hap hj1 hj2 e1 hpd
  go_enter Yba.func11, Yba.ntmps11
  go_upto_region 5 with fail
  by_cases hlast : k + 1 = j2
  · obtain rfl := hj1' hlast
    have hrow := hlastrow (hk2.2 hlast)
    subst hlast
    clear hap2 hlastrow hk2 hj1'
    have hS' : At w.drew S row 26 := by rw [hrow]; exact hS.drew
    have hcl1 := fun ty => hcl row sz1 ty w.drew hS'
    have fin1 := fin w.drew hS' kd rfl
    clear hcl fin hS hS' hrow
    generalize spl row j1 [.pointer none] = row2 at *
    go_region
    all_goals (try go_wp2)
    all_goals go_ret
    all_goals exact ⟨rfl, fin1⟩
  · rw [if_neg hlast] at hap2
    have hS1 : At (w.drew.setRow S row) S row 26 := hS.drew.row
    have kr := keep_row S w.drew row
    generalize w.drew.setRow S row = w1 at *
    have hcl1 := fun ty => hcl row sz1 ty w1 hS1
    have fin1 := fin w1 hS1 (kd.trans kr.1) kr.2
    clear hcl fin hS hS1 kr hlastrow hk2 hj1'
    generalize spl row k [.pointer none] = row2 at *
    go_region_law (refine step_append_known rfl (.tmp 22) (.tmp 25) 25 rfl (.slice (some ⟨S, 0, none⟩) j1 (k + 1)) (.slice (some ⟨S, j2, none⟩) (k + 1 - j2) (k + 1 - j2)) (.slice (some ⟨S, 0, none⟩) k (k + 1)) rfl rfl (hap2 _) ?_)
    all_goals (try go_wp2)
    all_goals go_ret
    all_goals exact ⟨rfl, fin1⟩
end Go.Proofs.Ybulkddxi
