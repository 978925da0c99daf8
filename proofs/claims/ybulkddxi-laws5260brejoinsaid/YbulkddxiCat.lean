import Derived.Test.YbulkddxiOwn
namespace Go.Proofs.Ybulkddxi
open Go.RowKit
set_option linter.unusedVariables false
set_option linter.unusedSimpArgs false
theorem slArr_h {t e : TypeId} {sz : Nat} (ht : Yba.prog.underlying t = some (.array 43 e)) (hi : (Yba.prog.info? e).map (·.size) = some sz) (a : Addr) (n : Nat) (hn : n ≤ 43) (w : World) :
    (Instr.sliceAt t (.pointer (some a)) none (some (.int .i64 n)) none).run Yba.prog w = .ok (.slice (some a) n 43) w := by
  obtain ⟨i, hi', hs⟩ := Option.map_eq_some_iff.1 hi
  have h0 : (0 : Int) ≤ n := by omega
  have h1 : (n : Int) ≤ (43 : Nat) := by omega
  have hB : ∀ code, (Instr.sliceBound (.int .i64 n) 43 code).run Yba.prog w = .ok n w := fun code => by simpa using run_sliceBound (P := Yba.prog) w .i64 (n : Int) 43 code h0 h1
  simp [hB, Instr.sliceAt, Instr.sureAddr, run_underlying ht, Instr.sliceBounds, run_sliceBound, sliced, sizeOf, typeInfo, hi', h0, h1, hn]
  try (unfold Addr.add; split <;> simp_all)
theorem slArr_all {t e : TypeId} {sz : Nat} (ht : Yba.prog.underlying t = some (.array 43 e)) (hi : (Yba.prog.info? e).map (·.size) = some sz) (a : Addr) (w : World) :
    (Instr.sliceAt t (.pointer (some a)) none none none).run Yba.prog w = .ok (.slice (some a) 43 43) w := by
  obtain ⟨i, hi', hs⟩ := Option.map_eq_some_iff.1 hi
  simp [Instr.sliceAt, Instr.sureAddr, run_underlying ht, Instr.sliceBounds, run_sliceBound, sliced, sizeOf, typeInfo, hi']
  try (unfold Addr.add; split <;> simp_all)
theorem slArr_lh {t e : TypeId} {sz : Nat} (ht : Yba.prog.underlying t = some (.array 43 e)) (hi : (Yba.prog.info? e).map (·.size) = some sz) (b o : Nat) (l n : Nat) (hl : l ≤ n) (hn : n ≤ 43) (hl3 : l < 43) (w : World) :
    (Instr.sliceAt t (.pointer (some ⟨b, o, none⟩)) (some (.int .i64 l)) (some (.int .i64 n)) none).run Yba.prog w = .ok (.slice (some ⟨b, o + l * sz, none⟩) (n - l) (43 - l)) w := by
  obtain ⟨i, hi', hs⟩ := Option.map_eq_some_iff.1 hi
  have h0 : (0 : Int) ≤ n := by omega
  have h1 : (n : Int) ≤ (43 : Nat) := by omega
  have h2 : (0 : Int) ≤ l := by omega
  have h3 : (l : Int) ≤ n := by omega
  have h4 : ¬ (43 = l) := by omega
  have hB : ∀ code, (Instr.sliceBound (.int .i64 n) 43 code).run Yba.prog w = .ok n w := fun code => by simpa using run_sliceBound (P := Yba.prog) w .i64 (n : Int) 43 code h0 h1
  have hB2 : ∀ code, (Instr.sliceBound (.int .i64 l) n code).run Yba.prog w = .ok l w := fun code => by simpa using run_sliceBound (P := Yba.prog) w .i64 (l : Int) n code h2 h3
  simp [hB, hB2, Instr.sliceAt, Instr.sureAddr, run_underlying ht, Instr.sliceBounds, run_sliceBound, sliced, sizeOf, typeInfo, hi', hs, h0, h1, h2, h3, hn, hl, h4, Addr.add]
theorem sz32 : (Yba.prog.info? 32).map (·.size) = some 13 := by kernel_rfl
theorem sz21 : (Yba.prog.info? 21).map (·.size) = some 1 := by kernel_rfl
theorem held_any (b n : Nat) (ed : Int) (E L : Nat → Int) (w : World) (hn : n ≤ 43) (hb : At w b (leafA ed n E L) 36) :
    Calls Yba.prog 7 #[.pointer (some ⟨b, 0, none⟩)] w fun e w' => e = .returned (.slice (some ⟨b, 2, none⟩) n 43) ∧ ∃ q, w' = w.drewN q := by
  have c1 : w.cell? ⟨b, 1, none⟩ = some (.int .i64 n) := (hb.cell 1).trans (leafA_at _ _ _ _ (by omega))
  clear hb
  have hsl := slArr_h Yba.underlying33 sz32 ⟨b, 2, none⟩ n hn
  go_enter Yba.func7, Yba.ntmps7
  go_wp2_with fail
  go_quiet (fail)
  go_wp2
  go_ret
  exact ⟨rfl, _, rfl⟩
/-- append of m zeros to a nil slice. -/
theorem run_append_zeros {P : Program} (w : World) (t u ty e : TypeId) (i : TypeInfo) (z : Value) (ht : P.underlying t = some (.slice e)) (hu : P.underlying u = some (.int .i64)) (hi : P.info? e = some i) (hz : i.zero = some z) (hs : 0 < i.size)
    (m : Nat) (h0 : 0 < m) (h1 : m ≤ 1000) (h48 : m * i.bytes ≤ 281474976710656) :
    (Builtin.append_ #[t, u] ty #[.slice none 0 0, .int .i64 m]).run P w =
      .ok (.slice (some ⟨w.heap.size, 0, none⟩) m (grownCap w m 0 e)) (w.drew.alloc (.cells (Builtin.zeroCells z.cells m ++ Builtin.zeroCells z.cells (grownCap w m 0 e - m)) e)) := by
  have hn : m ≠ 0 := by omega
  have hw : IntKind.i64.wrap (m : Int) = (m : Int) := by simp [IntKind.wrap, IntKind.signed, IntKind.bits]; omega
  have h63' : ¬ (9223372036854775807 < (m : Int)) := by omega
  have h48' : ¬ (281474976710656 < Builtin.nextslicecap m 0 * i.bytes) := by rw [nextslicecap_zero h0]; omega
  have hneg : ¬ ((m : Int) < 0) := by omega
  have h48i : ¬ (281474976710656 < (m : Int) * (i.bytes : Int)) := by
    have : ((m * i.bytes : Nat) : Int) ≤ 281474976710656 := by omega
    rw [Int.natCast_mul] at this; omega
  have hms' : ¬ (m = 0 ∨ i.size = 0) := by omega
  have hA : (asInt (.int .i64 m)).run P w = .ok (m : Int) w := rfl
  have hle : ¬ ((m : Int) ≤ 0) := by omega
  simp [Builtin.append_, run_underlying ht, run_underlying hu, sizeOf, typeInfo, zeroValue, hi, hz, hA, hw, hneg, h48i, hn, hms', h63', h48', hle, Question.forced, newRow, grownCap, Builtin.firstCells]
  intro h
  exact absurd (Nat.mul_eq_zero.1 h) hms'

theorem cell_add {w w' : World} {b o j : Nat} {v : Value} (h : w.cell? ((⟨b, o, none⟩ : Addr).add j) = some v) (e : w'.heap[b]? = w.heap[b]?) : w'.cell? ((⟨b, o, none⟩ : Addr).add j) = some v := by
  rw [Go.WideShapes.add_plain] at h ⊢; exact cell_keep h e
theorem size_zeroCells (z : Array Value) (n : Nat) : (Builtin.zeroCells z n).size = n * z.size := by simp [Builtin.zeroCells]
theorem wpList_append_zeros {P : Program} (w : World) {ops : Array Oper} {rest : List Oper} {o : Oper} {a : Act} {Q : Exit → Act → World → Prop} (hgd : o.guard = none) (s x : Operand) (t u : TypeId)
    (ho : o.op = .call { callee := .builtin .append, args := #[s, x], argTypes := #[t, u] }) (e : TypeId) (i : TypeInfo) (z : Value) (size : Nat) (ht : P.underlying t = some (.slice e)) (hu : P.underlying u = some (.int .i64)) (hi : P.info? e = some i) (hz : i.zero = some z)
    (hsz : i.size = size) (hs0 : 0 < size) (hzs : z.cells.size = size) (m : Nat) (h0 : 0 < m) (h1 : m ≤ 1000) (h48 : m * i.bytes ≤ 281474976710656) (hs : a.eval s = .slice none 0 0) (hx : a.eval x = .int .i64 m)
    (h : ∀ cap arr, m ≤ cap → cap ≤ maxLen → arr.size = cap * size → wpList P ops Q rest (a.put o.dst (.slice (some ⟨w.heap.size, 0, none⟩) m cap)) (w.drew.alloc (.cells arr e))) : wpList P ops Q (o :: rest) a w := by
  refine wpList_plain hgd fun K hK => ?_
  have hr := run_append_zeros (P := P) w t u o.type e i z ht hu hi hz (by omega) m h0 h1 h48
  have hg := grownCap_ge w m 0 e
  unfold Oper.wp execOp
  simp only [ho, resolve, invoke, builtin, Sem.run_bind, Sem.run_pure, Result.andThen_ok, List.map_toArray, List.map_cons, List.map_nil, hs, hx, hr]
  refine hK _ _ (h _ _ hg (grownCap_le_maxLen _ _ _ _ (by unfold maxLen; omega)) ?_)
  rw [Array.size_append, size_zeroCells, size_zeroCells, hzs, ← Nat.add_mul]
  congr 1
  omega

theorem info32 : (Yba.prog.info? 32).map (fun i => (i.zero, i.size, i.bytes)) = some (some (.agg #[.string ⟨#[]⟩, .slice none 0 0, .string ⟨#[]⟩, .int .u64 0, .int .u64 0, .slice none 0 0, .slice none 0 0, .slice none 0 0, .int .u64 0, .int .u64 0, .bool false, .int .u64 0, .int .u64 0]), 13, 184) := by kernel_rfl
theorem growQ (m : Nat) (h0 : 0 < m) (hm : m ≤ 86) (w : World) : Calls Yba.prog 12 #[.slice none 0 0, .int .i64 m] w fun e w' => ∃ cap, e = .returned (.slice (some ⟨w.heap.size, 0, none⟩) 0 cap) ∧ w'.ownsRow w.heap.size 32 13 (.slice (some ⟨w.heap.size, 0, none⟩) 0 cap) 0 [] ∧ Below w.heap.size w w' := by
  obtain ⟨i0, hi, hz0, hz1, hz2⟩ := info_parts info32
  have hm1 : (m : Int) ≤ 86 := by omega
  go_enter Yba.func12, Yba.ntmps12
  go_wp2_with (at_builtin; refine wpList_append_zeros _ rfl (.tmp 20) (.tmp 21) 47 3 rfl 32 i0 _ 13 Yba.underlying47 Yba.underlying3 hi hz0 hz1 (by decide) rfl m h0 (by omega) (by rw [hz2]; omega) rfl rfl ?_; intro cap arr hc1 hc2 hsz)
  go_ret
  exact ⟨cap, rfl, World.ownsRow_made w arr cap (Nat.le_refl _) hc2 hsz, ((Below.refl _ _).alloc (Nat.le_refl _) _).drew⟩

set_option maxHeartbeats 1000000 in
theorem catQ (S b1 o1 n1 c1 b2 o2 n2 c2 : Nat) (xs1 xs2 : List Value) (w : World) (hS : At w S #[.slice (some ⟨b1, o1, none⟩) n1 c1, .slice (some ⟨b2, o2, none⟩) n2 c2] 47)
    (p1 : 0 < n1) (q1 : n1 ≤ 43) (p2 : 0 < n2) (q2 : n2 ≤ 43) (l1 : xs1.length = n1 * 13) (l2 : xs2.length = n2 * 13) (lb1 : b1 < w.heap.size) (lb2 : b2 < w.heap.size)
    (s1 : ∀ j u, xs1[j]? = some u → w.cell? ((⟨b1, o1, none⟩ : Addr).add j) = some u) (s2 : ∀ j u, xs2[j]? = some u → w.cell? ((⟨b2, o2, none⟩ : Addr).add j) = some u)
    (k1 : ∀ u ∈ xs1, u.oneCell' = true) (k2 : ∀ u ∈ xs2, u.oneCell' = true) :
    Calls Yba.prog 6 #[.slice (some ⟨S, 0, none⟩) 2 2] w fun e w' => ∃ v, e = .returned v ∧ w'.ownsRow w.heap.size 32 13 v (n1 + n2) (xs1 ++ xs2) ∧ Below w.heap.size w w' := by
  obtain ⟨i0, hi, hz0, hz1, hz2⟩ := info_parts info32
  have a0 : w.cell? ⟨S, 0, none⟩ = some (.slice (some ⟨b1, o1, none⟩) n1 c1) := hS.cell 0
  have a1 : w.cell? ⟨S, 1, none⟩ = some (.slice (some ⟨b2, o2, none⟩) n2 c2) := hS.cell 1
  have lS := hS.lt
  have e1 : (n1 : Int) ≤ 43 := by omega
  have e2 : (n2 : Int) ≤ 43 := by omega
  go_enter Yba.func6, Yba.ntmps6
  go_wp2_with fail
  refine wp_loop_rounds 3 ?_
  rw [rounds_succ]
  go_wp2_with fail
  rw [rounds_succ]
  go_wp2_with fail
  rw [rounds_succ]
  have hg := growQ (n1 + n2) (by omega) (by omega) w
  rw [Int.natCast_add] at hg
  go_wp2_with (go_at_call 12; refine hg.mono ?_; rintro e w1 ⟨cap0, rfl, own0, bl0⟩; have a0' : w1.cell? ⟨S, 0, none⟩ = some (.slice (some ⟨b1, o1, none⟩) n1 c1) := cell_keep a0 (bl0.block S lS); have a1' : w1.cell? ⟨S, 1, none⟩ = some (.slice (some ⟨b2, o2, none⟩) n2 c2) := cell_keep a1 (bl0.block S lS))
  have t1 : ∀ j u, xs1[j]? = some u → w1.cell? ((⟨b1, o1, none⟩ : Addr).add j) = some u := fun j u h => cell_add (s1 j u h) (bl0.block b1 lb1)
  have sz1 := bl0.size
  clear hg s1 a0 a1
  refine wp_loop_rounds 3 ?_
  rw [rounds_succ]
  go_wp2_with (at_builtin; refine wpList_append_own_at _ rfl (.tmp 31) (.tmp 32) 47 rfl w.heap.size 32 i0 _ 13 184 Yba.underlying47 hi hz0 hz1 hz2 rfl (by decide) _ _ _ rfl own0 ⟨b1, o1, none⟩ n1 c1 xs1 rfl l1 t1 k1 (by unfold maxLen; omega) (by omega) sz1 ?_; intro v1 w2 own1 g1 _ _; have a1'' : w2.cell? ⟨S, 1, none⟩ = some (.slice (some ⟨b2, o2, none⟩) n2 c2) := cell_keep a1' (g1.block S (Nat.lt_of_lt_of_le lS sz1) (fun h => Nat.ne_of_lt lS (Option.some.inj h))))
  have t2 : ∀ j u, xs2[j]? = some u → w2.cell? ((⟨b2, o2, none⟩ : Addr).add j) = some u := fun j u h => cell_add (cell_add (s2 j u h) (bl0.block b2 lb2)) (g1.block b2 (Nat.lt_of_lt_of_le lb2 sz1) (fun h => Nat.ne_of_lt lb2 (Option.some.inj h)))
  have bl1 : Below w.heap.size w w2 := ⟨g1.os.trans bl0.os, g1.tape.trans bl0.tape, g1.output.trans bl0.output, Nat.le_trans bl0.size g1.size, fun j hj => (g1.block j (Nat.lt_of_lt_of_le hj sz1) (fun h => Nat.ne_of_lt hj (Option.some.inj h))).trans (bl0.block j hj)⟩
  have sz2 := bl1.size
  simp only [Nat.zero_add, List.nil_append] at own1
  clear own0 t1 s2 a0' a1' g1 bl0
  rw [rounds_succ]
  go_wp2_with (at_builtin; refine wpList_append_own_at _ rfl (.tmp 31) (.tmp 32) 47 rfl w.heap.size 32 i0 _ 13 184 Yba.underlying47 hi hz0 hz1 hz2 rfl (by decide) _ _ _ rfl own1 ⟨b2, o2, none⟩ n2 c2 xs2 rfl l2 t2 k2 (by unfold maxLen; omega) (by omega) sz2 ?_; intro v2 w3 own2 g2 _ _)
  have bl2 : Below w.heap.size w w3 := ⟨g2.os.trans bl1.os, g2.tape.trans bl1.tape, g2.output.trans bl1.output, Nat.le_trans bl1.size g2.size, fun j hj => (g2.block j (by omega) (fun h => by have := (own1.lt j h.symm).1; omega)).trans (bl1.block j hj)⟩
  clear own1 t2 a1'' g2
  rw [rounds_succ]
  go_wp2
  go_ret
  exact ⟨v2, rfl, own2, bl2⟩

theorem info21 : (Yba.prog.info? 21).map (fun i => (i.zero, i.size, i.bytes)) = some (some (.int .i32 0), 1, 4) := by kernel_rfl
theorem growI (m : Nat) (h0 : 0 < m) (hm : m ≤ 86) (w : World) : Calls Yba.prog 13 #[.slice none 0 0, .int .i64 m] w fun e w' => ∃ cap, e = .returned (.slice (some ⟨w.heap.size, 0, none⟩) 0 cap) ∧ w'.ownsRow w.heap.size 21 1 (.slice (some ⟨w.heap.size, 0, none⟩) 0 cap) 0 [] ∧ Below w.heap.size w w' := by
  obtain ⟨i0, hi, hz0, hz1, hz2⟩ := info_parts info21
  have hm1 : (m : Int) ≤ 86 := by omega
  go_enter Yba.func13, Yba.ntmps13
  go_wp2_with (at_builtin; refine wpList_append_zeros _ rfl (.tmp 20) (.tmp 21) 50 3 rfl 21 i0 _ 1 Yba.underlying50 Yba.underlying3 hi hz0 hz1 (by decide) rfl m h0 (by omega) (by rw [hz2]; omega) rfl rfl ?_; intro cap arr hc1 hc2 hsz)
  go_ret
  exact ⟨cap, rfl, World.ownsRow_made w arr cap (Nat.le_refl _) hc2 hsz, ((Below.refl _ _).alloc (Nat.le_refl _) _).drew⟩

set_option maxHeartbeats 1000000 in
theorem catI (S b1 o1 n1 c1 b2 o2 n2 c2 : Nat) (xs1 xs2 : List Value) (w : World) (hS : At w S #[.slice (some ⟨b1, o1, none⟩) n1 c1, .slice (some ⟨b2, o2, none⟩) n2 c2] 50)
    (p1 : 0 < n1) (q1 : n1 ≤ 43) (p2 : 0 < n2) (q2 : n2 ≤ 43) (l1 : xs1.length = n1 * 1) (l2 : xs2.length = n2 * 1) (lb1 : b1 < w.heap.size) (lb2 : b2 < w.heap.size)
    (s1 : ∀ j u, xs1[j]? = some u → w.cell? ((⟨b1, o1, none⟩ : Addr).add j) = some u) (s2 : ∀ j u, xs2[j]? = some u → w.cell? ((⟨b2, o2, none⟩ : Addr).add j) = some u)
    (k1 : ∀ u ∈ xs1, u.oneCell' = true) (k2 : ∀ u ∈ xs2, u.oneCell' = true) :
    Calls Yba.prog 8 #[.slice (some ⟨S, 0, none⟩) 2 2] w fun e w' => ∃ v, e = .returned v ∧ w'.ownsRow w.heap.size 21 1 v (n1 + n2) (xs1 ++ xs2) ∧ Below w.heap.size w w' := by
  obtain ⟨i0, hi, hz0, hz1, hz2⟩ := info_parts info21
  have a0 : w.cell? ⟨S, 0, none⟩ = some (.slice (some ⟨b1, o1, none⟩) n1 c1) := hS.cell 0
  have a1 : w.cell? ⟨S, 1, none⟩ = some (.slice (some ⟨b2, o2, none⟩) n2 c2) := hS.cell 1
  have lS := hS.lt
  have e1 : (n1 : Int) ≤ 43 := by omega
  have e2 : (n2 : Int) ≤ 43 := by omega
  go_enter Yba.func8, Yba.ntmps8
  go_wp2_with fail
  refine wp_loop_rounds 3 ?_
  rw [rounds_succ]
  go_wp2_with fail
  rw [rounds_succ]
  go_wp2_with fail
  rw [rounds_succ]
  have hg := growI (n1 + n2) (by omega) (by omega) w
  rw [Int.natCast_add] at hg
  go_wp2_with (go_at_call 13; refine hg.mono ?_; rintro e w1 ⟨cap0, rfl, own0, bl0⟩; have a0' : w1.cell? ⟨S, 0, none⟩ = some (.slice (some ⟨b1, o1, none⟩) n1 c1) := cell_keep a0 (bl0.block S lS); have a1' : w1.cell? ⟨S, 1, none⟩ = some (.slice (some ⟨b2, o2, none⟩) n2 c2) := cell_keep a1 (bl0.block S lS))
  have t1 : ∀ j u, xs1[j]? = some u → w1.cell? ((⟨b1, o1, none⟩ : Addr).add j) = some u := fun j u h => cell_add (s1 j u h) (bl0.block b1 lb1)
  have sz1 := bl0.size
  clear hg s1 a0 a1
  refine wp_loop_rounds 3 ?_
  rw [rounds_succ]
  go_wp2_with (at_builtin; refine wpList_append_own_at _ rfl (.tmp 31) (.tmp 32) 50 rfl w.heap.size 21 i0 _ 1 4 Yba.underlying50 hi hz0 hz1 hz2 rfl (by decide) _ _ _ rfl own0 ⟨b1, o1, none⟩ n1 c1 xs1 rfl l1 t1 k1 (by unfold maxLen; omega) (by omega) sz1 ?_; intro v1 w2 own1 g1 _ _; have a1'' : w2.cell? ⟨S, 1, none⟩ = some (.slice (some ⟨b2, o2, none⟩) n2 c2) := cell_keep a1' (g1.block S (Nat.lt_of_lt_of_le lS sz1) (fun h => Nat.ne_of_lt lS (Option.some.inj h))))
  have t2 : ∀ j u, xs2[j]? = some u → w2.cell? ((⟨b2, o2, none⟩ : Addr).add j) = some u := fun j u h => cell_add (cell_add (s2 j u h) (bl0.block b2 lb2)) (g1.block b2 (Nat.lt_of_lt_of_le lb2 sz1) (fun h => Nat.ne_of_lt lb2 (Option.some.inj h)))
  have bl1 : Below w.heap.size w w2 := ⟨g1.os.trans bl0.os, g1.tape.trans bl0.tape, g1.output.trans bl0.output, Nat.le_trans bl0.size g1.size, fun j hj => (g1.block j (Nat.lt_of_lt_of_le hj sz1) (fun h => Nat.ne_of_lt hj (Option.some.inj h))).trans (bl0.block j hj)⟩
  have sz2 := bl1.size
  simp only [Nat.zero_add, List.nil_append] at own1
  clear own0 t1 s2 a0' a1' g1 bl0
  rw [rounds_succ]
  go_wp2_with (at_builtin; refine wpList_append_own_at _ rfl (.tmp 31) (.tmp 32) 50 rfl w.heap.size 21 i0 _ 1 4 Yba.underlying50 hi hz0 hz1 hz2 rfl (by decide) _ _ _ rfl own1 ⟨b2, o2, none⟩ n2 c2 xs2 rfl l2 t2 k2 (by unfold maxLen; omega) (by omega) sz2 ?_; intro v2 w3 own2 g2 _ _)
  have bl2 : Below w.heap.size w w3 := ⟨g2.os.trans bl1.os, g2.tape.trans bl1.tape, g2.output.trans bl1.output, Nat.le_trans bl1.size g2.size, fun j hj => (g2.block j (by omega) (fun h => by have := (own1.lt j h.symm).1; omega)).trans (bl1.block j hj)⟩
  clear own1 t2 a1'' g2
  rw [rounds_succ]
  go_wp2
  go_ret
  exact ⟨v2, rfl, own2, bl2⟩
end Go.Proofs.Ybulkddxi
