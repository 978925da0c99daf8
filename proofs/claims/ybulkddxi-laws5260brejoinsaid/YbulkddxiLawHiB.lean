import Derived.Test.YbulkddxiLawBase2
import Derived.Test.YbulkddxiRh
namespace Go.Proofs.Ybulkddxi
open Go.RowKit
set_option linter.unusedVariables false
set_option linter.unusedSimpArgs false
attribute [local go_sem] neq26
attribute [local go_sem] zero36
set_option maxRecDepth 100000 in
set_option maxHeartbeats 4000000 in
theorem law_hiB (len cap b off K p : Nat) (zs : Nat → Int) (ad : Option Addr) (sel : Nat) (w : World) (hlen : len ≤ 300) (had : 0 < len → ad = some ⟨b, off, none⟩) (hC : Come w b off len zs) (hsel : sel < 18446744073709551616) (hK : (len < 2 → K = 2) ∧ (2 ≤ len → K = len)) (hpK : p + 1 < K) (hA : sel % K = p + 1 ∧ K = p + 2) (hm : ¬ szOf len zs p + szOf len zs (p + 1) ≤ 43) :
    Calls Yba.prog 3 #[.slice ad len cap, .int .u64 sel] w fun e w' => e = .returned (.bool true) ∧ Below w.heap.size w w' := by
  obtain ⟨i3, hi3, hz30, hz31, hz32⟩ := info_parts info3
  have g0 : (len : Int) ≤ 300 := by omega
  go_enter Yba.func3, Yba.ntmps3
  go_wp2_with (at_make; refine wpList_make_own _ rfl _ _ 24 rfl w.heap.size 3 i3 (.int .i64 0) 1 Yba.underlying24 hi3 hz30 hz31 .i64 .i64 _ (len + 2) rfl rfl (by simp) (by rw [hz32]; omega) (by unfold maxLen; omega) (Nat.le_refl _) ?_; intro w0 hown0 hgrow0)
  obtain ⟨sz, hsz⟩ : ∃ sz, Hid (szOf len zs = sz) := ⟨_, rfl⟩
  have hsle : ∀ j, sz j ≤ 43 := by rw [← hsz.out]; exact szOf_le len zs
  have hspos : ∀ j, 0 < sz j := by rw [← hsz.out]; exact szOf_pos len zs
  have bw0 : Below w.heap.size w w0 := ⟨hgrow0.os, hgrow0.tape, hgrow0.output, hgrow0.size, fun j hj => hgrow0.block j hj (by simp)⟩
  clear hgrow0
  go_loopw [5, 40] (fun v i wr => ∃ k : Nat, i = .int .i64 k ∧ k ≤ len ∧ Hid ((∃ a c, v = .slice a k c) ∧ wr.ownsRow w.heap.size 3 1 v k (szl sz k) ∧ Below w.heap.size w wr)) (fun _ i _ => len - (intOf i).toNat)
  case atStart => exact ⟨0, rfl, by omega, ⟨⟨_, _, rfl⟩, hown0, bw0⟩⟩
  case round =>
    obtain ⟨k, rfl, hk, hR⟩ := hrel
    obtain ⟨⟨a, c, rfl⟩, hown, bwr⟩ := hR.out
    by_cases hlt : k < len
    · obtain rfl := had (by omega)
      obtain ⟨o0, r0, r1⟩ := hC k hlt
      have lb : b < w.heap.size := cell_lt o0
      have p0 : wr.cell? ⟨b, off + k, none⟩ = some (.int .u8 (zs k)) := cell_keep o0 (bwr.block b lb)
      obtain ⟨z, hz⟩ : ∃ z : Nat, zs k = z := ⟨(zs k).toNat, by omega⟩
      rw [hz] at p0 r1
      have hszk : sz k = 1 + z % 43 := by rw [← hsz.out]; unfold szOf; rw [if_pos hlt, hz]; simp
      clear o0 r0 hC hz
      have hs2 : (1 + (z : Int) % 43) = ((sz k : Nat) : Int) := by rw [hszk]; omega
      have hk3 : (k : Int) ≤ 300 := by omega
      have hsw := bwr.size
      have HS : Hid ((1 + (z : Int) % 43) = ((sz k : Nat) : Int)) := hs2
      clear hs2 hszk
      go_wp2_with (at_builtin; refine wpList_append_own_at _ rfl (.tmp 44) (.tmp 49) 24 rfl w.heap.size 3 i3 (.int .i64 0) 1 8 Yba.underlying24 hi3 hz30 hz31 hz32 rfl (by decide) _ _ _ rfl (World.ownsRow.alloc hown _) ⟨wr.heap.size, 0, none⟩ 1 1 [.int .i64 (1 + (z : Int) % 43)] rfl rfl (cell_one_new _ _ _) (by intro u hu; simp at hu; subst hu; rfl) (by unfold maxLen; omega) (by omega) (by simp; omega) ?_; intro v1 w1 own1 g1 _ _)
      rw [HS.out, szl_snoc] at own1
      have bl1 : Below w.heap.size w w1 := ⟨g1.os.trans bwr.os, g1.tape.trans bwr.tape, g1.output.trans bwr.output, by have := g1.size; simp at this; omega, fun j hj => (g1.block j (by simp; omega) (fun h => by have := (hown.lt j h.symm).1; omega)).trans ((Below.heap_alloc _ _ _ (by omega)).trans (bwr.block j hj))⟩
      exact ⟨⟨k + 1, by go_num, by omega, ⟨own_slice own1, own1, bl1⟩⟩, by simp [intOf]; omega⟩
    · obtain rfl : k = len := by omega
      have hs1 : ∀ j, k ≤ j → sz j = 1 := by intro j hj; rw [← hsz.out]; unfold szOf; rw [if_neg (by omega)]
      clear hC hown0 bw0 had
      go_wp2_with fail
      go_loopw [5] (fun v wr => ∃ n : Nat, k ≤ n ∧ (n ≤ k ∨ n ≤ 2) ∧ Hid ((∃ a c, v = .slice a n c) ∧ wr.ownsRow w.heap.size 3 1 v n (szl sz n) ∧ Below w.heap.size w wr)) (fun v _ => 2 - vlen v)
      case atStart => exact ⟨k, by omega, by omega, hR⟩
      case round =>
        obtain ⟨n, h1, h2, hR2⟩ := hrel
        obtain ⟨⟨a2, c2, rfl⟩, own2, bl2⟩ := hR2.out
        have hn3 : (n : Int) ≤ 302 := by omega
        have hsw := bl2.size
        by_cases hlt2 : n < 2
        · go_wp2_with (at_builtin; refine wpList_append_own_at _ rfl (.tmp 55) (.tmp 56) 24 rfl w.heap.size 3 i3 (.int .i64 0) 1 8 Yba.underlying24 hi3 hz30 hz31 hz32 rfl (by decide) _ _ _ rfl (World.ownsRow.alloc own2 _) ⟨wr.heap.size, 0, none⟩ 1 1 [.int .i64 1] rfl rfl (cell_one_new _ _ _) (by intro u hu; simp at hu; subst hu; rfl) (by unfold maxLen; omega) (by omega) (by simp; omega) ?_; intro v1 w1 own1 g1 _ _)
          have e1 := hs1 n h1
          rw [show (Value.int .i64 1) = Value.int .i64 (sz n : Nat) by rw [e1]; rfl, szl_snoc] at own1
          have bl1 : Below w.heap.size w w1 := ⟨g1.os.trans bl2.os, g1.tape.trans bl2.tape, g1.output.trans bl2.output, by have := g1.size; simp at this; omega, fun j hj => (g1.block j (by simp; omega) (fun h => by have := (own2.lt j h.symm).1; omega)).trans ((Below.heap_alloc _ _ _ (by omega)).trans (bl2.block j hj))⟩
          obtain ⟨a3, c3, rfl⟩ := own_slice own1
          exact ⟨⟨n + 1, by omega, by omega, ⟨⟨_, _, rfl⟩, own1, bl1⟩⟩, by simp [vlen]; omega⟩
        · obtain ⟨g, cz, hv, hgb, lg, hcg, srcZ⟩ := own_shape own2 (by omega)
          injection hv with hv1 hv2 hv3
          subst hv1 hv3
          have hzc : ∀ j, j < n → wr.cell? ⟨g, j, none⟩ = some (.int .i64 (sz j : Nat)) := fun j hj => srcZ j _ (szl_at sz hj)
          have hmk : ∀ w, (Instr.makeSlice 25 (.int .i64 n) (.int .i64 n)).run Yba.prog w = .ok (.slice (some ⟨w.heap.size, 0, none⟩) n n) (w.alloc (.cells (madeCells #[.pointer none] n) 26)) := run_make_row' (P := Yba.prog) 25 26 (.pointer none) 8 Yba.underlying25 info26 rfl .i64 .i64 n (by omega) (by omega)
          have hB0 : Bd w sz wr.heap.size n 0 g (wr.alloc (.cells (madeCells #[.pointer none] n) 26)) := Bd.start bl2 lg hzc
          clear hR hR2 own2 srcZ hzc hv2 bwr hown
          generalize hSS : wr.heap.size = S at *
          go_wp2_with fail
          go_loopw [10, 11] (fun x y wr => ∃ a : Nat, a ≤ n ∧ x = .int .i64 (st sz a : Nat) ∧ y = .int .i64 a ∧ Hid (Bd w sz S n a g wr)) (fun _ y _ => n - (intOf y).toNat)
          case atStart => exact ⟨0, by omega, rfl, rfl, hB0⟩
          case round =>
            obtain ⟨a, ha, rfl, rfl, hRa⟩ := hrel
            by_cases halt : a < n
            · obtain ⟨B, hS, hlv, hzc, blr, lS, lgS⟩ := hRa.out
              have hc0 : wr.cell? ⟨g, a, none⟩ = some (.int .i64 (sz a : Nat)) := hzc a halt
              have lS' := hS.lt
              have hle := hsle a
              have hpo := hspos a
              have hst := st_le sz hsle a
              have ha3 : (a : Int) ≤ 302 := by omega
              go_upto_region 18 with fail
              have hN := At.new wr (leafA 0 0 (fun _ => 0) (fun _ => 0)) 36
              have kn : Keep S wr (wr.alloc (.cells (leafA 0 0 (fun _ => 0) (fun _ => 0)) 36)) := ⟨rfl, rfl, rfl, by simp, fun j h1 _ => Below.heap_alloc _ _ _ h1⟩
              have hsz1 : (wr.alloc (.cells (leafA 0 0 (fun _ => 0) (fun _ => 0)) 36)).heap.size = wr.heap.size + 1 := by simp
              have hc1 : (wr.alloc (.cells (leafA 0 0 (fun _ => 0) (fun _ => 0)) 36)).cell? ⟨g, a, none⟩ = some (.int .i64 (sz a : Nat)) := cell_keep hc0 (Below.heap_alloc _ _ _ (by omega))
              have kW : ∀ x, x < wr.heap.size → (wr.alloc (.cells (leafA 0 0 (fun _ => 0) (fun _ => 0)) 36)).heap[x]? = wr.heap[x]? := fun x hx => Below.heap_alloc _ _ _ hx
              have hS1 := hS.block (kW S lS')
              have hlv1 : ∀ j, j < a → At (wr.alloc (.cells (leafA 0 0 (fun _ => 0) (fun _ => 0)) 36)) (B j) (leafA 0 (sz j : Nat) (num (st sz j) (sz j)) (num (st sz j) (sz j))) 36 ∧ S < B j ∧ B j < wr.heap.size := fun j hj => ⟨(hlv j hj).1.block (kW _ (hlv j hj).1.lt), (hlv j hj).2, (hlv j hj).1.lt⟩
              have hzc1 : ∀ j, j < n → (wr.alloc (.cells (leafA 0 0 (fun _ => 0) (fun _ => 0)) 36)).cell? ⟨g, j, none⟩ = some (.int .i64 (sz j : Nat)) := fun j hj => cell_keep (hzc j hj) (kW g (by omega))
              have blr1 : Below w.heap.size w (wr.alloc (.cells (leafA 0 0 (fun _ => 0) (fun _ => 0)) 36)) := blr.alloc blr.size _
              have hcw : w.heap.size ≤ wr.heap.size := blr.size
              clear kW hS hlv hzc blr kn
              generalize hw1 : wr.alloc (.cells (leafA 0 0 (fun _ => 0) (fun _ => 0)) 36) = w1 at *
              have n0 : w1.cell? ⟨wr.heap.size, 1, none⟩ = some (.int .i64 0) := (hN.cell 1).trans (leafA_at _ _ _ _ (by omega))
              have f0 := hN.frozen 1
              have neg : ¬ (g = wr.heap.size) := by omega
              go_upto_region 19 with fail
              have hN2 := hN.set 1 (.int .i64 (sz a : Nat))
              rw [leafA_n] at hN2
              have kn2 : Keep wr.heap.size w1 (w1.setCell ⟨wr.heap.size, 1, none⟩ (.int .i64 (sz a : Nat))) := (keep_cell _ _ _ _).1
              have hsz2 : (w1.setCell ⟨wr.heap.size, 1, none⟩ (.int .i64 (sz a : Nat))).heap.size = wr.heap.size + 1 := by rw [(keep_cell _ _ _ _).2]; exact hsz1
              generalize w1.setCell ⟨wr.heap.size, 1, none⟩ (.int .i64 (sz a : Nat)) = w2 at *
              obtain ⟨c, hcc⟩ : ∃ c, Hid (wr.heap.size = c) := ⟨_, rfl⟩
              rw [hcc.out] at hN2 kn2 hsz2 hlv1 hcw ⊢
              clear n0 f0 hN hc1
              go_wp2_with fail
              go_loopw [10, 13] (fun x y wi => ∃ j nx : Nat, j ≤ sz a ∧ x = .int .i64 nx ∧ y = .int .i64 j ∧ Hid (st sz a + j = nx) ∧ Hid (At wi c (leafA 0 (sz a : Nat) (num (st sz a) j) (num (st sz a) j)) 36 ∧ Keep c w2 wi ∧ wi.heap.size = c + 1)) (fun _ y _ => sz a - (intOf y).toNat)
              case atStart => exact ⟨0, st sz a, by omega, rfl, rfl, rfl, ⟨by rw [num_zero]; exact hN2, Keep.refl _ _, hsz2⟩⟩
              case round =>
                obtain ⟨j, nx, hj, rfl, rfl, hnx, hRj⟩ := hrel
                obtain ⟨hA, kA, szA⟩ := hRj.out
                have n1 : wr.cell? ⟨c, 1, none⟩ = some (.int .i64 (sz a : Nat)) := (hA.cell 1).trans (leafA_at _ _ _ _ (by omega))
                have hnb : (nx : Int) ≤ 13000 := by have := hnx.out; omega
                have hcS : S < c := by have := hcc.out; omega
                by_cases hjl : j < sz a
                · have q0 : wr.cell? ⟨c, 2 + j * 13 + 3, none⟩ = some (.int .u64 (num (st sz a) j j)) := by rw [hA.cell, leafA_at _ _ _ _ (by omega), lcell_epoch _ _ _ _ (by omega)]
                  have q1 := hA.frozen (2 + j * 13 + 3)
                  have l0 : wr.cell? ⟨c, 561 + j, none⟩ = some (.int .i32 (num (st sz a) j j)) := by rw [hA.cell, leafA_at _ _ _ _ (by omega), lcell_len]
                  have l1 := hA.frozen (561 + j)
                  have hj43 : (j : Int) < 43 := by omega
                  have hjs : (j : Int) < (sz a : Nat) := by omega
                  have neo : ¬ (561 + j = 2 + j * 13 + 3) := by omega
                  have hA1 := hA.set (2 + j * 13 + 3) (.int .u64 ((nx : Int) + 1))
                  rw [leafA_epoch _ _ _ _ _ (by omega)] at hA1
                  have hA2 := hA1.set (561 + j) (.int .i32 ((nx : Int) + 1))
                  rw [leafA_len _ _ _ _ _ (by omega), show ((nx : Int) + 1) = ((st sz a + j + 1 : Nat) : Int) by have := hnx.out; omega, num_upd] at hA2
                  have hk2 : Keep c w2 ((wr.setCell ⟨c, 2 + j * 13 + 3, none⟩ (.int .u64 ((nx : Int) + 1))).setCell ⟨c, 561 + j, none⟩ (.int .i32 ((nx : Int) + 1))) := kA.trans ((keep_cell _ _ _ _).1.trans (keep_cell _ _ _ _).1)
                  have hs3 : ((wr.setCell ⟨c, 2 + j * 13 + 3, none⟩ (.int .u64 ((nx : Int) + 1))).setCell ⟨c, 561 + j, none⟩ (.int .i32 ((nx : Int) + 1))).heap.size = c + 1 := by rw [(keep_cell _ _ _ _).2, (keep_cell _ _ _ _).2]; exact szA
                  rw [show ((st sz a + j + 1 : Nat) : Int) = ((nx : Int) + 1) by have := hnx.out; omega] at hA2
                  have hfin : Hid (st sz a + (j + 1) = nx + 1) := by have := hnx.out; show _ = _; omega
                  clear hA hA1 hRj hRa
                  go_wp2_with fail
                  exact ⟨⟨j + 1, nx + 1, by omega, by go_num, by go_num, hfin, ⟨hA2, hk2, hs3⟩⟩, by simp [intOf]; omega⟩
                · obtain rfl : j = sz a := by omega
                  have keepO : ∀ x, x < c → wr.heap[x]? = w1.heap[x]? := fun x hx => (kA.block x (by omega) (by omega)).trans (kn2.block x (by have := hcc.out; omega) (by omega))
                  have hSw : At wr S (prow B a n) 26 := hS1.block (keepO S hcS)
                  have s0 : wr.cell? ⟨S, a, none⟩ = some (.pointer none) := by rw [hSw.cell, prow_at _ halt, if_neg (by omega)]
                  have s1 := hSw.frozen a
                  have hS2 := hSw.set a (.pointer (some ⟨c, 0, none⟩))
                  rw [prow_set B c halt] at hS2
                  have hBd : Bd w sz S n (a + 1) g (wr.setCell ⟨S, a, none⟩ (.pointer (some ⟨c, 0, none⟩))) := by
                    refine ⟨_, hS2, fun j hj => ?_, fun j hj => cell_keep (cell_keep (hzc1 j hj) (keepO g (by omega))) (Below.heap_setCell _ _ _ _ (by show g ≠ S; omega)), ?_, lS, lgS⟩
                    · by_cases hja : j = a
                      · subst hja
                        rw [if_pos rfl]
                        exact ⟨hA.other (a := ⟨S, j, none⟩) (by show c ≠ S; omega) _, hcS⟩
                      · rw [if_neg hja]
                        obtain ⟨t1, t2, t3⟩ := hlv1 j (by omega)
                        exact ⟨(t1.block (keepO _ t3)).other (a := ⟨S, a, none⟩) (by show B j ≠ S; omega) _, t2⟩
                    · refine below_cell (o := a) ⟨(kA.os.trans kn2.os).trans blr1.os, (kA.tape.trans kn2.tape).trans blr1.tape, (kA.output.trans kn2.output).trans blr1.output, by omega, fun x hx => (keepO x (by omega)).trans (blr1.block x hx)⟩ lS _
                  have hstn : Hid (nx = st sz (a + 1)) := by have := hnx.out; show _ = _; unfold st; omega
                  clear hRj hRa hS2 hA
                  go_wp2_with fail
                  exact ⟨⟨a + 1, by omega, by rw [hstn.out], by go_num, hBd⟩, by simp [intOf]; omega⟩
            · obtain rfl : a = n := by omega
              obtain rfl : a = K := by omega
              have HA : Hid (sel % a = p + 1 ∧ a = p + 2) := hA
              clear hA
              obtain ⟨B, hS, hlv, hzc, blr, lS, lgS⟩ := hRa.out
              rw [prow_full] at hS
              have hcl := clone_any S a B wr (by omega) (by omega) hS
              clear hRa hB0
              go_upto_region 28 with (go_at_call 4; refine hcl.mono ?_; rintro e w4 ⟨v4, rfl, own4, bl4⟩)
              obtain ⟨O, co, rfl, hO1, lO, hco, srcO⟩ := own_shape own4 (by omega)
              have hO4 : ∀ j, j < a → w4.cell? ⟨O, j, none⟩ = some (.pointer (some ⟨B j, 0, none⟩)) := fun j hj => srcO j _ (pl_at B hj)
              have hS4 := hS.below bl4
              have lSw := hS.lt
              have hlv4 : ∀ j, j < a → At w4 (B j) (leafA 0 (sz j : Nat) (num (st sz j) (sz j)) (num (st sz j) (sz j))) 36 ∧ S < B j ∧ B j < wr.heap.size := fun j hj => ⟨(hlv j hj).1.below bl4, (hlv j hj).2, (hlv j hj).1.lt⟩
              have hz4 : ∀ j, j < a → w4.cell? ⟨g, j, none⟩ = some (.int .i64 (sz j : Nat)) := fun j hj => cell_keep (hzc j hj) (bl4.block g (by omega))
              have blw4 : Below w.heap.size w w4 := below_more blr bl4 blr.size
              have h4s := bl4.size
              have hn0 : ¬ ((a : Int) = 0) := by omega
              have hn302 : (a : Int) ≤ 302 := by omega
              obtain ⟨i0, hi⟩ : ∃ i0, Hid (sel % a = i0) := ⟨_, rfl⟩
              have hi2 : i0 < a := by have := hi.out; have := Nat.mod_lt sel (show a > 0 by omega); omega
              clear hcl own4 srcO hS hlv hzc blr bl4
              go_upto_region 29 with fail
              rw [show ((sel : Int) % (a : Int)) = (i0 : Int) by rw [← hi.out]; omega]
              obtain ⟨i, rfl⟩ : ∃ i, i = p := ⟨p, rfl⟩
              have hia : i0 = i + 1 := by have := hi.out; have := HA.out; omega
              have hib0 : a = i + 2 := HA.out.2
              have HIB : Hid (i0 = i + 1 ∧ a = i + 2) := ⟨hia, hib0⟩
              clear HA hia hib0
              have hi0b : (i0 : Int) < 302 := by omega
              have hi0c : i0 + 1 < 400 := by omega
              rw [show wrap64 (i0 : Int) = (i0 : Int) by unfold wrap64; omega]
              go_upto_region 30 with fail
              have he := At.new w4 (edC S a a (st sz a)) 44
              have hS5 := hS4.alloc (.cells (edC S a a (st sz a)) 44)
              have hlv5 : ∀ j, j < a → At (w4.alloc (.cells (edC S a a (st sz a)) 44)) (B j) (leafA 0 (sz j : Nat) (num (st sz j) (sz j)) (num (st sz j) (sz j))) 36 ∧ S < B j ∧ B j < w4.heap.size := fun j hj => ⟨(hlv4 j hj).1.alloc _, (hlv4 j hj).2.1, (hlv4 j hj).1.lt⟩
              have hz5 : ∀ j, j < a → (w4.alloc (.cells (edC S a a (st sz a)) 44)).cell? ⟨g, j, none⟩ = some (.int .i64 (sz j : Nat)) := fun j hj => cell_keep (hz4 j hj) (Below.heap_alloc _ _ _ (by omega))
              have hO5 : ∀ j, j < a → (w4.alloc (.cells (edC S a a (st sz a)) 44)).cell? ⟨O, j, none⟩ = some (.pointer (some ⟨B j, 0, none⟩)) := fun j hj => cell_keep (hO4 j hj) (Below.heap_alloc _ _ _ lO)
              have blw5 : Below w.heap.size w (w4.alloc (.cells (edC S a a (st sz a)) 44)) := blw4.alloc blw4.size _
              have hs5 : (w4.alloc (.cells (edC S a a (st sz a)) 44)).heap.size = w4.heap.size + 1 := by simp
              have hw4 := blw4.size
              obtain ⟨eb, heb⟩ : ∃ eb, Hid (w4.heap.size = eb) := ⟨_, rfl⟩
              have leO : O < eb := by have := heb.out; omega
              have leS : S < eb := by have := heb.out; omega
              have leW : w.heap.size ≤ eb := by have := heb.out; omega
              rw [heb.out] at he hlv5 hs5 ⊢
              generalize (w4.alloc (.cells (edC S a a (st sz a)) 44)) = w5 at *
              have hle1 := hsle i
              have hle2 := hsle (i + 1)
              have hpo1 := hspos i
              have hpo2 := hspos (i + 1)
              have hm2 : ¬ sz i + sz (i + 1) ≤ 43 := by rw [← hsz.out]; exact hm
              have hrj := rejoin_hi eb S a i0 i (st sz a) B (sz i) (sz (i + 1)) _ _ _ _ w5 hpK (by omega) (.inr HIB.out) he hS5 hpo1 hle1 hpo2 hle2 (hlv5 i (by omega)).1 (hlv5 (i + 1) (by omega)).1 hm2
              clear he hS4 hlv4 hz4 hO4 blw4 hS5 hi
              have dia : (a : Int) - 1 = (i0 : Int) := by have := HIB.out; omega
              go_upto_region 34 with (go_at_call 5; refine hrj.mono ?_; rintro e w6 ⟨rfl, c1, c2, hjn⟩)
              rw [show ((i0 : Int) - 1) = (i : Int) by have := HIB.out; omega]
              clear dia
              obtain ⟨hc6, hd6, he6, hS6, hC6, hD6, kp6⟩ := hjn
              have hz6 : ∀ j, j < a → w6.cell? ⟨g, j, none⟩ = some (.int .i64 (sz j : Nat)) := fun j hj => cell_keep (hz5 j hj) (kp6.block g (by omega) (by omega) (by omega))
              have hO6 : ∀ j, j < a → w6.cell? ⟨O, j, none⟩ = some (.pointer (some ⟨B j, 0, none⟩)) := fun j hj => cell_keep (hO5 j hj) (kp6.block O (by omega) (by omega) (by omega))
              have hl6 : ∀ j, j < a → At w6 (B j) (leafA 0 (sz j : Nat) (num (st sz j) (sz j)) (num (st sz j) (sz j))) 36 ∧ B j < eb := fun j hj => ⟨(hlv5 j hj).1.block (kp6.block _ (by have := (hlv5 j hj).2.2; omega) (by have := (hlv5 j hj).2.1; omega) (by have := (hlv5 j hj).2.2; omega)), (hlv5 j hj).2.2⟩
              have blw6 : Below w.heap.size w w6 := ⟨kp6.os.trans blw5.os, kp6.tape.trans blw5.tape, kp6.output.trans blw5.output, Nat.le_trans blw5.size kp6.size, fun j hj => (kp6.block j (by have := blw5.size; omega) (by omega) (by omega)).trans (blw5.block j hj)⟩
              have z1 := hz6 i (by omega)
              have z2 := hz6 (i + 1) (by omega)
              obtain ⟨m, hmm⟩ : ∃ m, Hid (sz i + sz (i + 1) = m) := ⟨_, rfl⟩
              have dm : ((sz i : Nat) : Int) + ((sz (i + 1) : Nat) : Int) = (m : Int) := by have := hmm.out; omega
              have hm3 : ¬ ((m : Int) ≤ 43) := by have := hmm.out; omega
              have hm4 : (m : Int) ≤ 86 := by have := hmm.out; omega
              rw [hmm.out] at hC6 hD6
              have e1 : w6.cell? ⟨eb, 1, none⟩ = some (.slice (some ⟨S, 0, none⟩) a a) := he6.cell 1
              clear hrj hz5 hO5 hlv5 blw5 kp6
              have hi4 : (i : Int) + 1 < (a : Int) := by omega
              go_quiet (fail)
              go_wp2_with fail
              go_loopw [23] (fun y wr => ∃ x t : Nat, x ≤ a ∧ y = .int .i64 x ∧ Hid (wr = w6.drewN t)) (fun y _ => a - (intOf y).toNat)
              case atStart => exact ⟨0, _, by omega, rfl, rfl⟩
              case round =>
                obtain ⟨x, t, hx, rfl, ht⟩ := hrel
                by_cases hxa : x < a
                · have hx2 : (x : Int) < (a : Int) := by omega
                  by_cases hxi : x = i
                  · subst hxi
                    go_wp2_with fail
                    exact ⟨⟨x + 1, t, by omega, by go_num, ht⟩, by simp [intOf]; omega⟩
                  · by_cases hxj : x = i + 1
                    · subst hxj
                      go_wp2_with fail
                      exact ⟨⟨i + 1 + 1, t, by omega, by go_num, ht⟩, by simp [intOf]; omega⟩
                    · have r1 : wr.cell? ⟨S, x, none⟩ = some (.pointer (some ⟨B x, 0, none⟩)) := by rw [ht.out]; have := hS6 x (by omega); rw [if_neg hxj, if_neg hxi] at this; exact this
                      have r2 : wr.cell? ⟨O, x, none⟩ = some (.pointer (some ⟨B x, 0, none⟩)) := by rw [ht.out]; exact hO6 x (by omega)
                      have hx3 : ¬ ((x : Int) = (i : Int)) := by omega
                      have hx4 : ¬ ((x : Int) = (i : Int) + 1) := by omega
                      go_wp2_with fail
                      · exact ⟨⟨x + 1, t, by omega, by go_num, ht⟩, by simp [intOf]; omega⟩
                      · go_quiet (fail)
                        go_wp2_with fail
                        exact ⟨⟨x + 1, _, by omega, by go_num, by show _ = _; rw [ht.out]; exact World.drewN_drewN _ _ _⟩, by simp [intOf]; omega⟩
                · have hx2 : ¬ ((x : Int) < (a : Int)) := by omega
                  have r1 : wr.cell? ⟨S, i, none⟩ = some (.pointer (some ⟨c1, 0, none⟩)) := by rw [ht.out]; have := hS6 i (by omega); rw [if_neg (by omega), if_pos rfl] at this; exact this
                  have r2 : wr.cell? ⟨O, i, none⟩ = some (.pointer (some ⟨B i, 0, none⟩)) := by rw [ht.out]; exact hO6 i (by omega)
                  have r3 : wr.cell? ⟨S, i + 1, none⟩ = some (.pointer (some ⟨c2, 0, none⟩)) := by rw [ht.out]; have := hS6 (i + 1) (by omega); rw [if_pos rfl] at this; exact this
                  have r4 : wr.cell? ⟨O, i + 1, none⟩ = some (.pointer (some ⟨B (i + 1), 0, none⟩)) := by rw [ht.out]; exact hO6 (i + 1) (by omega)
                  have k0 : wr.cell? ⟨c1, 0, none⟩ = some (.int .u64 1) := by rw [ht.out]; exact (hC6.cell 0).trans (leafA_at _ _ _ _ (by omega))
                  have k0' : wr.cell? ⟨c2, 0, none⟩ = some (.int .u64 1) := by rw [ht.out]; exact (hD6.cell 0).trans (leafA_at _ _ _ _ (by omega))
                  obtain ⟨hf, hhf⟩ : ∃ hf, Hid (m / 2 = hf) := ⟨_, rfl⟩
                  have dhf : (m : Int) / 2 = (hf : Int) := by rw [← hhf.out]; omega
                  have hf9 : (hf : Int) ≤ 43 := by have := hhf.out; omega
                  have k1 : wr.cell? ⟨c1, 1, none⟩ = some (.int .i64 (hf : Int)) := by rw [ht.out, ← hhf.out]; exact (hC6.cell 1).trans (leafA_at _ _ _ _ (by omega))
                  have k1' : wr.cell? ⟨c2, 1, none⟩ = some (.int .i64 ((m : Int) - (hf : Int))) := by
                    rw [ht.out, show (m : Int) - (hf : Int) = ((m - m / 2 : Nat) : Int) by rw [← hhf.out]; omega]; exact (hD6.cell 1).trans (leafA_at _ _ _ _ (by omega))
                  have heq : ∀ n, (binOp .eql 26 (.pointer (some ⟨c1, 0, none⟩)) (.pointer (some ⟨B i, 0, none⟩))).run Yba.prog (wr.drewN n) = .ok (.bool false) (wr.drewN n) := by
                    intro n
                    rw [ht.out, World.drewN_drewN]
                    exact eql26 hC6 (hl6 i (by omega)).1 (by have := (hl6 i (by omega)).2; omega) _
                  have heq' : ∀ n, (binOp .eql 26 (.pointer (some ⟨c2, 0, none⟩)) (.pointer (some ⟨B (i + 1), 0, none⟩))).run Yba.prog (wr.drewN n) = .ok (.bool false) (wr.drewN n) := by
                    intro n
                    rw [ht.out, World.drewN_drewN]
                    exact eql26 hD6 (hl6 (i + 1) (by omega)).1 (by have := (hl6 (i + 1) (by omega)).2; omega) _
                  go_wp2_with fail
                  go_quiet (fail)
                  clear heq heq' k0 k0'
                  go_wp2_with fail
                  clear k1 k1' dhf r1 r2 r3 r4
                  have ht3 : Hid (wr.drewN nq = w6.drewN (t + nq)) := by show _ = _; rw [ht.out]; exact World.drewN_drewN _ _ _
                  go_loopw [24, 25] (fun u v wr => ∃ j t : Nat, j ≤ a ∧ u = .int .i64 (st sz j : Nat) ∧ v = .int .i64 j ∧ Hid (wr = w6.drewN t)) (fun _ v _ => a - (intOf v).toNat)
                  case atStart => exact ⟨0, _, by omega, rfl, rfl, ht3⟩
                  case round =>
                    obtain ⟨j, t4, hj, rfl, rfl, ht4⟩ := hrel
                    by_cases hja : j < a
                    · have hlj := (hl6 j hja).1
                      have o1 : wr.cell? ⟨O, j, none⟩ = some (.pointer (some ⟨B j, 0, none⟩)) := by rw [ht4.out]; exact hO6 j hja
                      have y1 : wr.cell? ⟨B j, 1, none⟩ = some (.int .i64 (sz j : Nat)) := by rw [ht4.out]; exact (hlj.cell 1).trans (leafA_at _ _ _ _ (by omega))
                      have y0 : wr.cell? ⟨B j, 0, none⟩ = some (.int .u64 0) := by rw [ht4.out]; exact (hlj.cell 0).trans (leafA_at _ _ _ _ (by omega))
                      have zj : wr.cell? ⟨g, j, none⟩ = some (.int .i64 (sz j : Nat)) := by rw [ht4.out]; exact hz6 j hja
                      have hj2 : (j : Int) < (a : Int) := by omega
                      have hlej := hsle j
                      have hstj := st_le sz hsle j
                      go_wp2_with fail
                      go_quiet (fail)
                      go_wp2_with fail
                      clear o1 y1 y0 zj
                      go_loopw [24, 27] (fun u v wi => ∃ y ix t : Nat, y ≤ sz j ∧ u = .int .i64 ix ∧ v = .int .i64 y ∧ Hid (st sz j + y = ix) ∧ Hid (wi = w6.drewN t)) (fun _ v _ => sz j - (intOf v).toNat)
                      case atStart => exact ⟨0, st sz j, _, by omega, rfl, rfl, rfl, by show _ = _; rw [ht4.out]; exact World.drewN_drewN _ _ _⟩
                      case round =>
                        obtain ⟨y, ix, t5, hy, rfl, rfl, hix, ht5⟩ := hrel
                        have y1 : wr.cell? ⟨B j, 1, none⟩ = some (.int .i64 (sz j : Nat)) := by rw [ht5.out]; exact (hlj.cell 1).trans (leafA_at _ _ _ _ (by omega))
                        have hib : (ix : Int) ≤ 13000 := by have := hix.out; omega
                        by_cases hys : y < sz j
                        · have v0 : wr.cell? ⟨B j, 2 + y * 13 + 3, none⟩ = some (.int .u64 ((ix : Int) + 1)) := by
                            rw [ht5.out]; refine ((hlj.cell _).trans (leafA_at _ _ _ _ (by omega))).trans ?_
                            rw [lcell_epoch _ _ _ _ (by omega)]; unfold num; rw [if_pos hys, ← hix.out]; rfl
                          have v1 : wr.cell? ⟨B j, 561 + y, none⟩ = some (.int .i32 ((ix : Int) + 1)) := by
                            rw [ht5.out]; refine ((hlj.cell _).trans (leafA_at _ _ _ _ (by omega))).trans ?_
                            rw [lcell_len]; unfold num; rw [if_pos hys, ← hix.out]; rfl
                          have hy43 : (y : Int) < 43 := by omega
                          have hys2 : (y : Int) < (sz j : Nat) := by omega
                          go_wp2_with fail
                          exact ⟨⟨y + 1, ix + 1, t5, by omega, by go_num, by go_num, by have := hix.out; show _ = _; omega, ht5⟩, by simp [intOf]; omega⟩
                        · obtain rfl : y = sz j := by omega
                          have hixs : Hid (ix = st sz (j + 1)) := by have := hix.out; show _ = _; unfold st; omega
                          go_wp2_with fail
                          exact ⟨⟨j + 1, t5, by omega, by rw [hixs.out], by go_num, ht5⟩, by simp [intOf]; omega⟩
                    · obtain rfl : j = a := by omega
                      have hGot : Got w6 S j (st sz j) := got_hi hpK (by omega) hsle hspos hmm.out (by have := hmm.out; omega) hS6 (fun y hy => (hl6 y hy).1) hC6 hD6
                      obtain ⟨G, nn, ss, ed, LL, hs0, hsq, hGy⟩ := hGot
                      have HSQ : Hid (ss j = st sz j) := hsq
                      have HS0 : Hid (ss 0 = 0) := hs0
                      clear hsq hs0 hS6 hC6 hD6 hl6 hO6 hz6 dm
                      go_wp2_with fail
                      go_loopw [24, 365] (fun u v wr => ∃ y t : Nat, y ≤ j ∧ u = .int .i64 (ss y : Nat) ∧ v = .int .i64 y ∧ Hid (wr = w6.drewN t)) (fun _ v _ => j - (intOf v).toNat)
                      case atStart => exact ⟨0, t4, by omega, by rw [HS0.out]; rfl, rfl, ht4⟩
                      case round =>
                        obtain ⟨y, t6, hy, rfl, rfl, ht6⟩ := hrel
                        by_cases hyq : y < j
                        · obtain ⟨u1, u2, u3, u4, u5, u6, u7⟩ := hGy y hyq
                          have U6 : Hid (ss (y + 1) = ss y + nn y) := u6
                          have o1 : wr.cell? ⟨S, y, none⟩ = some (.pointer (some ⟨G y, 0, none⟩)) := by rw [ht6.out]; exact u1
                          have y1 : wr.cell? ⟨G y, 1, none⟩ = some (.int .i64 (nn y : Nat)) := by rw [ht6.out]; exact (u2.cell 1).trans (leafA_at _ _ _ _ (by omega))
                          have hyq2 : (y : Int) < (j : Int) := by omega
                          have hn1 : ¬ (((nn y : Nat) : Int) < 1) := by omega
                          have hn2 : ((nn y : Nat) : Int) ≤ 43 := by omega
                          clear u6 u1
                          go_wp2_with fail
                          clear o1
                          go_loopw [24, 30] (fun u v wi => ∃ z ix t : Nat, z ≤ 43 ∧ u = .int .i64 ix ∧ v = .int .i64 z ∧ Hid (ss y + min z (nn y) = ix) ∧ Hid (wi = w6.drewN t)) (fun _ v _ => 43 - (intOf v).toNat)
                          case atStart => exact ⟨0, ss y, t6, by omega, rfl, rfl, by show _ = _; simp, ht6⟩
                          case round =>
                            obtain ⟨z, ix, t7, hz, rfl, rfl, hix, ht7⟩ := hrel
                            have y1 : wr.cell? ⟨G y, 1, none⟩ = some (.int .i64 (nn y : Nat)) := by rw [ht7.out]; exact (u2.cell 1).trans (leafA_at _ _ _ _ (by omega))
                            have hib : (ix : Int) ≤ 14000 := by have := hix.out; omega
                            by_cases hz43 : z < 43
                            · have hz43' : (z : Int) < 43 := by omega
                              by_cases hzn : z < nn y
                              · have hzn' : (z : Int) < (nn y : Nat) := by omega
                                have exix : ((ss y + z + 1 : Nat) : Int) = (ix : Int) + 1 := by have := hix.out; omega
                                have v0 : wr.cell? ⟨G y, 2 + z * 13 + 3, none⟩ = some (.int .u64 ((ix : Int) + 1)) := by
                                  rw [ht7.out]; refine ((u2.cell _).trans (leafA_at _ _ _ _ (by omega))).trans ?_
                                  rw [lcell_epoch _ _ _ _ hz43]; unfold num; rw [if_pos hzn, exix]
                                have v1 : wr.cell? ⟨G y, 561 + z, none⟩ = some (.int .i32 ((ix : Int) + 1)) := by
                                  rw [ht7.out]; refine ((u2.cell _).trans (leafA_at _ _ _ _ (by omega))).trans ?_
                                  rw [lcell_len, u3 z hzn, exix]
                                clear exix
                                go_wp2_with fail
                                exact ⟨⟨z + 1, ix + 1, t7, by omega, by go_num, by go_num, by have := hix.out; show _ = _; omega, ht7⟩, by simp [intOf]; omega⟩
                              · have hzn' : ¬ ((z : Int) < (nn y : Nat)) := by omega
                                have v0 : wr.cell? ⟨G y, 2 + z * 13 + 3, none⟩ = some (.int .u64 0) := by
                                  rw [ht7.out]; refine ((u2.cell _).trans (leafA_at _ _ _ _ (by omega))).trans ?_
                                  rw [lcell_epoch _ _ _ _ hz43]; unfold num; rw [if_neg hzn]
                                go_wp2_with fail
                                exact ⟨⟨z + 1, ix, t7, by omega, rfl, by go_num, by have := hix.out; show _ = _; omega, ht7⟩, by simp [intOf]; omega⟩
                            · obtain rfl : z = 43 := by omega
                              have hixs : Hid (ix = ss (y + 1)) := by have := hix.out; have := U6.out; show _ = _; omega
                              go_wp2_with fail
                              exact ⟨⟨y + 1, t7, by omega, by rw [hixs.out], by go_num, ht7⟩, by simp [intOf]; omega⟩
                        · obtain rfl : y = j := by omega
                          have bfin : Below w.heap.size w wr := by rw [ht6.out]; exact below_drewN blw6 _
                          rw [HSQ.out]
                          go_wp2
                          go_ret
                          exact ⟨rfl, bfin⟩
end Go.Proofs.Ybulkddxi
