import Derived.Test.YbulkddxiJoin2
namespace Go.Proofs.Ybulkddxi
open Go.RowKit
set_option linter.unusedVariables false
set_option linter.unusedSimpArgs false

set_option maxHeartbeats 8000000 in
theorem rejoin_Bhi (eb S k p tot : Nat) (B : Nat → Nat) (n1 n2 : Nat) (E1 L1 E2 L2 : Nat → Int) (w : World) (hp : p < k) (hk : k ≤ 399) (hkp : Hid (k = p + 1)) (he : At w eb (edC S (k + 1) (k + 1) tot) 44) (hS : At w S (pts B (k + 1)) 26)
    (a1 : 0 < n1) (a2 : n1 ≤ 43) (b1 : 0 < n2) (b2 : n2 ≤ 43) (bl br : Nat) (hbl : Hid (B p = bl)) (hbr : Hid (B (p + 1) = br)) (hl : At w bl (leafA 0 n1 E1 L1) 36) (hr : At w br (leafA 0 n2 E2 L2) 36) (lSw : S < w.heap.size) (lew : eb < w.heap.size) (R : Ending → World → Prop)
    (hmA : ¬ n1 + n2 ≤ 43)
    (hR2 : ¬ n1 + n2 ≤ 43 → ∀ w' c1 c2, w.heap.size ≤ c1 → w.heap.size ≤ c2 → At w' eb (edC S (k + 1) (k + 1) tot) 44 → At w' S (pts (fun j => if j = p + 1 then c2 else if j = p then c1 else B j) (k + 1)) 26 →
      At w' c1 (leafA 1 (((n1 + n2) / 2 : Nat) : Int) (zap ((n1 + n2) / 2) n1 (fst ((n1 + n2) / 2) (cat2 n1 E1 E2) E1)) (fst ((n1 + n2) / 2) (cat2 n1 L1 L2) L1)) 36 →
      At w' c2 (leafA 1 ((n1 + n2 - (n1 + n2) / 2 : Nat) : Int) (zap (n1 + n2 - (n1 + n2) / 2) n2 (fst (n1 + n2 - (n1 + n2) / 2) (fun j => cat2 n1 E1 E2 ((n1 + n2) / 2 + j)) E2)) (fst (n1 + n2 - (n1 + n2) / 2) (fun j => cat2 n1 L1 L2 ((n1 + n2) / 2 + j)) L2)) 36 → Keep2 S eb w w' → R (.returned (.tuple #[])) w') :
    Calls Yba.prog 5 #[.pointer (some ⟨eb, 0, none⟩), .int .i64 k] w R := by
  have c1 : w.cell? ⟨eb, 1, none⟩ = some (.slice (some ⟨S, 0, none⟩) (k + 1) (k + 1)) := he.cell 1
  have s1 : w.cell? ⟨S, p, none⟩ = some (.pointer (some ⟨bl, 0, none⟩)) := by rw [← hbl.out]; exact (hS.cell p).trans (pts_at B (by omega))
  have s2 : w.cell? ⟨S, p + 1, none⟩ = some (.pointer (some ⟨br, 0, none⟩)) := by rw [← hbr.out]; exact (hS.cell (p + 1)).trans (pts_at B (by omega))
  have d1 : (p : Int) < (k : Int) := by omega
  have d2 : (k : Int) ≤ 400 := by omega
  go_enter Yba.func5, Yba.ntmps5
  go_upto_region 2 with fail
  rw [show ((k : Int) - 1) = (p : Int) by have := hkp.out; omega]
  go_quiet (fail)
  have ll := hl.lt
  have lr := hr.lt
  go_upto_region 4 with (first | (go_at_call_of 7 (Value.pointer (some ⟨bl, 0, none⟩)); refine (held_any bl n1 0 E1 L1 _ a2 (by exact hl)).mono ?_; rintro e wa ⟨rfl, qa, rfl⟩) | (go_at_call_of 7 (Value.pointer (some ⟨br, 0, none⟩)); refine (held_any br n2 0 E2 L2 _ b2 (by exact hr)).mono ?_; rintro e wa ⟨rfl, qb, rfl⟩) | (go_at_call 6; refine (catQ w.heap.size bl 2 n1 43 br 2 n2 43 (qs E1 n1) (qs E2 n2) _ (by exact At.new _ _ _) a1 a2 b1 b2 (qs_len _ _) (qs_len _ _) (by simp; omega) (by simp; omega) (leaf_qs (by exact At.alloc (w := World.drewN _ _) hl _) a2) (leaf_qs (by exact At.alloc (w := World.drewN _ _) hr _) b2) (qs_one _ _) (qs_one _ _)).mono ?_; rintro e w2 ⟨v, rfl, own2, bl2⟩))
  obtain ⟨m, hm0⟩ : ∃ m, Hid (n1 + n2 = m) := ⟨_, rfl⟩
  have hmp : 0 < m := by have := hm0.out; omega
  have hmx : m ≤ 86 := by have := hm0.out; omega
  rw [hm0.out] at hR2
  rw [qs_cat, hm0.out] at own2
  obtain ⟨g, cg, rfl, hgb, lg, hcg, srcQ⟩ := own_shape own2 hmp
  have hw2 : Below w.heap.size w w2 := below_more (b := (World.drewN _ _).alloc _) ((below_drewN (Below.refl _ w) _).alloc (by simp) _) bl2 (by simp)
  have gw : w.heap.size < g := by have := hgb; simp at this; omega
  have hl2 := hl.below hw2
  have hr2 := hr.below hw2
  have he2 := he.below hw2
  have hS2 := hS.below hw2
  clear own2 bl2 hgb c1 s1 s2 hl hr he hS
  have m1 : w2.cell? ⟨bl, 1, none⟩ = some (.int .i64 n1) := (hl2.cell 1).trans (leafA_at _ _ _ _ (by omega))
  have m2 : w2.cell? ⟨br, 1, none⟩ = some (.int .i64 n2) := (hr2.cell 1).trans (leafA_at _ _ _ _ (by omega))
  have hs1 := slArr_h Yba.underlying34 sz21 ⟨bl, 561, none⟩ n1 a2
  have hs2 := slArr_h Yba.underlying34 sz21 ⟨br, 561, none⟩ n2 b2
  have hsz2 := hw2.size
  have hcat : Calls Yba.prog 8 #[.slice (some ⟨w2.heap.size, 0, none⟩) 2 2] (w2.alloc (.cells #[.slice (some ⟨bl, 561, none⟩) n1 43, .slice (some ⟨br, 561, none⟩) n2 43] 50)).drew fun e w' => ∃ v, e = .returned v ∧ w'.ownsRow (w2.heap.size + 1) 21 1 v (n1 + n2) (ls L1 n1 ++ ls L2 n2) ∧ Below (w2.heap.size + 1) (w2.alloc (.cells #[.slice (some ⟨bl, 561, none⟩) n1 43, .slice (some ⟨br, 561, none⟩) n2 43] 50)).drew w' := by
    have h := catI w2.heap.size bl 561 n1 43 br 561 n2 43 (ls L1 n1) (ls L2 n2) (w2.alloc (.cells #[.slice (some ⟨bl, 561, none⟩) n1 43, .slice (some ⟨br, 561, none⟩) n2 43] 50)).drew (At.new w2 _ _).drew a1 a2 b1 b2 (ls_len _ _) (ls_len _ _) (by show _ < (w2.alloc _).heap.size; simp; omega) (by show _ < (w2.alloc _).heap.size; simp; omega) (leaf_ls (hl2.alloc _).drew a2) (leaf_ls (hr2.alloc _).drew b2) (ls_one _ _) (ls_one _ _)
    have e : (w2.alloc (.cells #[.slice (some ⟨bl, 561, none⟩) n1 43, .slice (some ⟨br, 561, none⟩) n2 43] 50)).drew.heap.size = w2.heap.size + 1 := by show (w2.alloc _).heap.size = _; simp
    rw [e] at h
    exact h
  go_region_with (go_at_call 8; refine hcat.mono ?_; rintro e w3 ⟨v3, rfl, own3, bl3⟩)
  all_goals
    rw [ls_cat, hm0.out] at own3
    obtain ⟨h, ch, rfl, hhb, lh, hch, srcL⟩ := own_shape own3 hmp
    have hw3 : Below w.heap.size w w3 := below_more (below_more hw2 ((Below.refl _ w2).alloc (Nat.le_refl _) _) hsz2) ⟨bl3.os, bl3.tape, bl3.output, bl3.size, bl3.block⟩ (by omega)
    have keep3 : ∀ j, j < w2.heap.size → w3.heap[j]? = w2.heap[j]? := fun j hj => (bl3.block j (by omega)).trans (Below.heap_alloc _ _ _ hj)
    have hl3 := hl2.block (keep3 _ hl2.lt)
    have hr3 := hr2.block (keep3 _ hr2.lt)
    have he3 := he2.block (keep3 _ he2.lt)
    have hS3 := hS2.block (keep3 _ hS2.lt)
    have srcQ3 : ∀ j u, (qs (cat2 n1 E1 E2) m)[j]? = some u → w3.cell? ⟨g, j, none⟩ = some u := fun j u hj => cell_keep (srcQ j u hj) (keep3 g lg)
    have lg3 : g < w3.heap.size := by have := bl3.size; have e : (w2.alloc (Obj.cells #[Value.slice (some ⟨bl, 561, none⟩) n1 43, Value.slice (some ⟨br, 561, none⟩) n2 43] 50)).drew.heap.size = w2.heap.size + 1 := (by show (w2.alloc _).heap.size = _; simp); omega
    have gh : w.heap.size < h := by omega
    have lS := hS2.lt
    have hsz3 := hw3.size
    have lS0 : S < w.heap.size := lSw
    have le0 : eb < w.heap.size := lew
    clear own3 bl3 hcat srcQ m1 m2 hs1 hs2 keep3 hl2 hr2 he2 hS2 hw2 lg hhb
    have e1 : w3.cell? ⟨eb, 1, none⟩ = some (.slice (some ⟨S, 0, none⟩) (k + 1) (k + 1)) := he3.cell 1
    have e0 : w3.cell? ⟨eb, 0, none⟩ = some (.int .u64 1) := he3.cell 0
    have s1 : w3.cell? ⟨S, p, none⟩ = some (.pointer (some ⟨bl, 0, none⟩)) := by rw [← hbl.out]; exact (hS3.cell p).trans (pts_at B (by omega))
    have hown := own_any eb S bl p (k + 1) (k + 1) n1 E1 L1 w3 (by omega) (by omega) e0 e1 s1 (hS3.frozen p) hl3
    by_cases hm : m ≤ 43
    · exact absurd hm (by have := hm0.out; omega)
    · have hm' : ¬ ((m : Int) ≤ 43) := by omega
      have hR := hR2 hm
      clear hR2
      go_upto_region 9 with fail
      obtain ⟨hf, hhf⟩ : ∃ hf, Hid (m / 2 = hf) := ⟨_, rfl⟩
      rw [show ((m : Int) / 2) = (hf : Int) by rw [← hhf.out]; omega]
      rw [hhf.out] at hR
      have hf1 : 0 < hf := by have := hhf.out; omega
      have hf2 : hf ≤ 43 := by have := hhf.out; omega
      have hf3 : hf ≤ m := by have := hhf.out; omega
      have hf4 : m - hf ≤ 43 := by have := hhf.out; omega
      have hf5 : 0 < m - hf := by have := hhf.out; omega
      have q1 : (hf : Int) ≤ (cg : Int) := by omega
      have q2 : (hf : Int) ≤ (ch : Int) := by omega
      have q3 : ¬ (cg = hf) := by omega
      have q4 : ¬ (ch = hf) := by omega
      have q5 : (hf : Int) ≤ (m : Int) := by omega
      have neS : eb ≠ S := he3.ne hS3 (by decide)
      have hown9 : Calls Yba.prog 9 #[.pointer (some ⟨eb, 0, none⟩), .int .i64 p] w3.drew fun e w' => e = .returned (.pointer (some ⟨w3.heap.size, 0, none⟩)) ∧ At w' w3.heap.size (leafA 1 n1 E1 L1) 36 ∧ (∀ ps, At w3 S ps 26 → At w' S (ps.setIfInBounds p (.pointer (some ⟨w3.heap.size, 0, none⟩))) 26) ∧ Keep S w3 w' ∧ w'.heap.size = w3.heap.size + 1 :=
        (own_any eb S bl p (k + 1) (k + 1) n1 E1 L1 w3.drew (by omega) (by omega) e0 e1 s1 (hS3.frozen p) hl3).mono fun e w' ⟨r1, r2, r3, r4, r5⟩ => ⟨r1, r2, r3, ⟨r4.os, r4.tape, r4.output, r4.size, r4.block⟩, r5⟩
      clear hown s1 e0 e1 hm'
      go_region_with (first | (go_at_call 9; refine hown9.mono ?_; rintro e w4 ⟨rfl, hc4, hps4, kp4, sz4⟩; have srcQ4 : ∀ j u, (qs (cat2 n1 E1 E2) hf)[j]? = some u → w4.cell? ((⟨g, 0, none⟩ : Addr).add j) = some u := (fun j u hj => by rw [Go.WideShapes.add_plain, Nat.zero_add]; exact cell_keep (srcQ3 j u (qs_pre _ hf3 hj)) (kp4.block g lg3 (by omega))); have srcL4 : ∀ j u, (ls (cat2 n1 L1 L2) hf)[j]? = some u → w4.cell? ((⟨h, 0, none⟩ : Addr).add j) = some u := (fun j u hj => by rw [Go.WideShapes.add_plain, Nat.zero_add]; exact cell_keep (srcL j u (ls_pre _ hf3 hj)) (kp4.block h lh (by omega))); have hfill := fill_any w3.heap.size g 0 h 0 hf cg ch n1 1 E1 L1 (cat2 n1 E1 E2) (cat2 n1 L1 L2) w4 hf1 hf2 a2 hc4 (by omega) (by omega) srcQ4 srcL4 (by omega) (by omega); clear srcQ4 srcL4) | (go_at_call 10; refine hfill.mono ?_; rintro e w5 ⟨rfl, hc5, kp5, sz5⟩))
      have hS4 := hps4 _ hS3
      rw [pts_set B _ (by omega)] at hS4
      have hS5 := hS4.keep kp5 (by show S ≠ w3.heap.size; omega)
      have he5 := (he3.keep kp4 neS).keep kp5 (by show eb ≠ w3.heap.size; omega)
      have hr5 := (hr3.keep kp4 (hr3.ne hS3 (by decide))).keep kp5 (by show br ≠ w3.heap.size; omega)
      have sz5' : w5.heap.size = w3.heap.size + 1 := by omega
      have fr5 : ∀ j, j < w3.heap.size → j ≠ S → w5.heap[j]? = w3.heap[j]? := fun j h1 h2 => (kp5.block j (by omega) (by omega)).trans (kp4.block j h1 h2)
      have srcQ5 : ∀ j u, (qs (cat2 n1 E1 E2) m)[j]? = some u → w5.cell? ⟨g, j, none⟩ = some u := fun j u hj => cell_keep (srcQ3 j u hj) (fr5 g lg3 (by omega))
      have srcL5 : ∀ j u, (ls (cat2 n1 L1 L2) m)[j]? = some u → w5.cell? ⟨h, j, none⟩ = some u := fun j u hj => cell_keep (srcL j u hj) (fr5 h lh (by omega))
      have os5 : w5.os = w.os ∧ w5.tape = w.tape ∧ w5.output = w.output := ⟨kp5.os.trans (kp4.os.trans hw3.os), kp5.tape.trans (kp4.tape.trans hw3.tape), kp5.output.trans (kp4.output.trans hw3.output)⟩
      have fr5' : ∀ j, j < w.heap.size → j ≠ S → w5.heap[j]? = w.heap[j]? := fun j h1 h2 => (fr5 j (by omega) h2).trans (hw3.block j h1)
      have e0 : w5.cell? ⟨eb, 0, none⟩ = some (.int .u64 1) := he5.cell 0
      have e1 : w5.cell? ⟨eb, 1, none⟩ = some (.slice (some ⟨S, 0, none⟩) (k + 1) (k + 1)) := he5.cell 1
      have s2 : w5.cell? ⟨S, p + 1, none⟩ = some (.pointer (some ⟨br, 0, none⟩)) := by
        rw [← hbr.out, hS5.cell, pts_at _ (by omega), if_neg (by omega)]
      have hw10 : IntKind.i64.wrap ((p : Int) + 1) = ((p + 1 : Nat) : Int) := by simp [IntKind.wrap, IntKind.signed, IntKind.bits]; omega
      have hown10 : Calls Yba.prog 9 #[.pointer (some ⟨eb, 0, none⟩), .int .i64 (IntKind.i64.wrap ((p : Int) + 1))] w5.drew fun e w' => e = .returned (.pointer (some ⟨w5.heap.size, 0, none⟩)) ∧ At w' w5.heap.size (leafA 1 n2 E2 L2) 36 ∧ (∀ ps, At w5 S ps 26 → At w' S (ps.setIfInBounds (p + 1) (.pointer (some ⟨w5.heap.size, 0, none⟩))) 26) ∧ Keep S w5 w' ∧ w'.heap.size = w5.heap.size + 1 := by
        rw [hw10]
        exact (own_any eb S br (p + 1) (k + 1) (k + 1) n2 E2 L2 w5.drew (by omega) (by omega) e0 e1 s2 (hS5.frozen (p + 1)) hr5).mono fun e w' ⟨r1, r2, r3, r4, r5⟩ => ⟨r1, r2, r3, ⟨r4.os, r4.tape, r4.output, r4.size, r4.block⟩, r5⟩
      clear hw10
      clear hown9 hps4 kp4 hc4 hS4 hS3 he3 srcQ3 srcL hl3 hr3 hw3 kp5 sz5 sz4 hfill fr5 e0 e1 s2
      have SZ : Hid (w5.heap.size = w3.heap.size + 1) := sz5'
      have lg5 : g < w5.heap.size := by omega
      have lh5 : h < w5.heap.size := by omega
      clear sz5'
      go_upto_region 10 with fail
      go_region_with (first | (go_at_call 9; refine hown10.mono ?_; rintro e w6 ⟨rfl, hc6, hps6, kp6, sz6⟩; have srcQ6 : ∀ j u, (qs (fun i => cat2 n1 E1 E2 (hf + i)) (m - hf))[j]? = some u → w6.cell? ((⟨g, hf * 13, none⟩ : Addr).add j) = some u := (fun j u hj => by rw [Go.WideShapes.add_plain]; exact cell_keep (srcQ5 _ u (qs_suf _ hf3 hj)) (kp6.block g (by omega) (by omega))); have srcL6 : ∀ j u, (ls (fun i => cat2 n1 L1 L2 (hf + i)) (m - hf))[j]? = some u → w6.cell? ((⟨h, hf, none⟩ : Addr).add j) = some u := (fun j u hj => by rw [Go.WideShapes.add_plain]; exact cell_keep (srcL5 _ u (ls_suf _ hf3 hj)) (kp6.block h (by omega) (by omega))); have hfill := fill_any w5.heap.size g (hf * 13) h hf (m - hf) (cg - hf) (ch - hf) n2 1 E2 L2 (fun i => cat2 n1 E1 E2 (hf + i)) (fun i => cat2 n1 L1 L2 (hf + i)) w6 hf5 hf4 b2 hc6 (by omega) (by omega) srcQ6 srcL6 (by omega) (by omega); clear srcQ6 srcL6) | (go_at_call 10; refine hfill.mono ?_; rintro e w7 ⟨rfl, hc7, kp7, sz7⟩))
      have sz5' := SZ.out
      have hS6 := hps6 _ hS5
      rw [pts_set _ _ (by omega)] at hS6
      have hS7 := hS6.keep kp7 (by show S ≠ w5.heap.size; omega)
      have he7 := (he5.keep kp6 neS).keep kp7 (by show eb ≠ w5.heap.size; omega)
      have hc17 := (hc5.keep kp6 (by show w3.heap.size ≠ S; omega)).keep kp7 (by show w3.heap.size ≠ w5.heap.size; omega)
      have hfin := hR w7 w3.heap.size w5.heap.size (by omega) (by omega) he7 hS7 hc17 hc7 ⟨kp7.os.trans (kp6.os.trans os5.1), kp7.tape.trans (kp6.tape.trans os5.2.1), kp7.output.trans (kp6.output.trans os5.2.2), by omega, fun j h1 h2 h3 => (kp7.block j (by omega) (by omega)).trans ((kp6.block j (by omega) h2).trans (fr5' j h1 h2))⟩
      clear hR hS6 hS7 he7 hc17 hc7 kp7 kp6 fr5' srcQ5 srcL5 hown10 hps6
      try go_wp2
      first | (go_end0; exact hfin) | exact hfin
end Go.Proofs.Ybulkddxi
