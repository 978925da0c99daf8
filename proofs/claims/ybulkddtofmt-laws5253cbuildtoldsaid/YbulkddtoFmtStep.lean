import Derived.Test.YbulkddtoFmtBase
import Derived.Maps.AppendAt
import Derived.Deep.DeepCutAuto
namespace Go.Proofs.YbulkddtoFmt
open Go.RowKit
set_option linter.unusedVariables false

theorem Ybaf.info3 : (Ybaf.prog.info? 3).map (fun i => (i.zero, i.size, i.bytes)) = some (some (.int .i64 0), 1, 8) := by kernel_rfl
theorem same_ptr {tp te : TypeId} (p : Option Addr) (w : World) (hp : Ybaf.prog.underlying tp = some (.pointer te)) (hte : (Ybaf.prog.info? te).isSome = true) : (Op.equal tp (.pointer p) (.pointer p)).run Ybaf.prog w = .ok true w := by
  obtain ⟨j, hj⟩ := Option.isSome_iff_exists.1 hte
  have h : ∀ d : Nat, (Op.equalIn (d + 1) tp (.pointer p) (.pointer p)).run Ybaf.prog w = .ok true w := fun d => by
    cases p with
    | none => simp [Op.equalIn, run_underlying hp]
    | some a => simp [Op.equalIn, run_underlying hp, sizeOf, typeInfo, hj, run_sameAddr_same]
  exact h 9999
theorem neq25 (p : Option Addr) (w : World) : (binOp .neq 25 (.pointer p) (.pointer p)).run Ybaf.prog w = .ok (.bool false) w := by
  simp only [binOp]; simp [same_ptr p w Ybaf.underlying25 (by kernel_rfl)]

attribute [local go_sem] neq25

theorem range_snoc (k : Nat) : ((List.range k).map fun j => Value.int .i64 (j : Nat)) ++ [Value.int .i64 (k : Nat)] = (List.range (k + 1)).map fun j => Value.int .i64 (j : Nat) := by
  rw [List.range_succ, List.map_append]; rfl

set_option maxHeartbeats 1000000 in
theorem step_any (o : Op3) (C LOG IDX SEEN SAME INN b k : Nat) (sp : Option Addr) (lv : Value) (tb md nx : Int) (w : World)
    (hsp : sp = none ∨ sp = some ⟨C, 0, none⟩) (hk : k < 1024)
    (hL : At w LOG #[lv] 24) (hlog : Log w C lv k) (hI : At w IDX #[.int .i64 k] 3) (hS : At w SEEN #[.pointer sp] 25) (hA : At w SAME #[.bool true] 4)
    (hN : At w INN #[.func (Fn.func (fnOf o)) #[] #[.pointer (some ⟨b, 0, none⟩)]] 31) (hb : At w b #[valOf o] (tyOf o)) (hC : At w C (ctr tb md nx) 42)
    (lL : LOG < C) (lS : SEEN < C) (lA : SAME < C) (lN : INN < C) (lb : b < C) :
    Calls Ybaf.prog 7 #[.pointer (some ⟨C, 0, none⟩), .pointer (some ⟨LOG, 0, none⟩), .pointer (some ⟨IDX, 0, none⟩), .pointer (some ⟨SEEN, 0, none⟩), .pointer (some ⟨SAME, 0, none⟩), .pointer (some ⟨INN, 0, none⟩)] w fun e w' =>
      e = .returned (.tuple #[]) ∧ (∃ lv', At w' LOG #[lv'] 24 ∧ Log w' C lv' (k + 1)) ∧ At w' SEEN #[.pointer (some ⟨C, 0, none⟩)] 25 ∧ At w' C (ctr tb (mdOf o md) (nxOf o nx)) 42 ∧ Kp C LOG SEEN w w' := by
  obtain ⟨la, lcap, rfl⟩ := hlog.shape
  obtain ⟨i0, hi, hz0, hz1, hz2⟩ := info_parts Ybaf.info3
  have l0 : w.cell? ⟨LOG, 0, none⟩ = some (.slice la k lcap) := hL.cell 0
  have i0' : w.cell? ⟨IDX, 0, none⟩ = some (.int .i64 k) := hI.cell 0
  have hc := hC.lt
  go_enter Ybaf.func7, Ybaf.ntmps7
  go_wp2_with (first | (at_builtin; refine wpList_append_own_at _ rfl (.tmp 7) (.tmp 9) 24 rfl (C + 1) 3 i0 (.int .i64 0) 1 8 Ybaf.underlying24 hi hz0 hz1 hz2 rfl (by decide) _ _ _ rfl (World.ownsRow.alloc hlog _) ⟨w.heap.size, 0, none⟩ 1 1 [.int .i64 k] rfl rfl (cell_one_new _ _ _) (by intro u hu; simp at hu; subst hu; rfl) (by unfold maxLen; omega) (by omega) (by simp; omega) ?_))
  intro v' w1 hown' hgrow _ _
  have hlog1 : Log w1 C v' (k + 1) := by unfold Log; rw [← range_snoc]; exact hown'
  have keep : ∀ j, j ≤ C → w1.heap[j]? = w.heap[j]? := fun j hj =>
    (hgrow.block j (by simp; omega) (fun e => by have := (World.ownsRow.lt hlog j e.symm).1; omega)).trans (Below.heap_alloc _ _ _ (by omega))
  have kp1 : Kp C LOG SEEN w w1 := ⟨hgrow.os, hgrow.tape, hgrow.output, by have := hgrow.size; simp at this; omega, fun x h1 _ _ => keep x (by omega)⟩
  have hL1 := hL.block (keep _ (by omega))
  have hS1 := hS.block (keep _ (by omega))
  have hN1 := hN.block (keep _ (by omega))
  have hb1 := hb.block (keep _ (by omega))
  have hC1 := hC.block (keep _ (by omega))
  clear hown' hgrow keep hlog hL hS hN hb hC hI hA l0 i0'
  obtain ⟨a', cap', rfl⟩ := hlog1.shape
  have l1 : w1.cell? ⟨LOG, 0, none⟩ = some (.slice la k lcap) := hL1.cell 0
  have fl := hL1.frozen 0
  have s1 : w1.cell? ⟨SEEN, 0, none⟩ = some (.pointer sp) := hS1.cell 0
  have fs := hS1.frozen 0
  have n1 : w1.cell? ⟨INN, 0, none⟩ = some (.func (Fn.func (fnOf o)) #[] #[.pointer (some ⟨b, 0, none⟩)]) := hN1.cell 0
  have neLS := hL1.ne hS1 (by decide)
  have neSL : SEEN ≠ LOG := fun h => neLS h.symm
  have neNL := hN1.ne hL1 (by decide)
  have neNS := hN1.ne hS1 (by decide)
  have neLC : LOG ≠ C := by omega
  have neSC : SEEN ≠ C := by omega
  have hin := fun w (h1 : At w C (ctr tb md nx) 42) (h2 : At w b #[valOf o] (tyOf o)) => in_any o C b tb md nx w h1 h2
  have nebL : b ≠ LOG := hb1.ne hL1 (by unfold tyOf; split <;> decide)
  have nebS : b ≠ SEEN := hb1.ne hS1 (by unfold tyOf; split <;> decide)
  have hf : fnOf o = 10 ∨ fnOf o = 11 ∨ fnOf o = 6 := by unfold fnOf; split; exact .inl rfl; split; exact .inr (.inl rfl); exact .inr (.inr rfl)
  generalize fnOf o = f at n1 hin hN1 hf
  have neCL : C ≠ LOG := by omega
  have neCS : C ≠ SEEN := by omega
  rcases hsp with rfl | rfl
  · go_upto_region 5 with fail
    have hL2 := (hL1.set 0 (.slice a' (k + 1) cap')).other (a := ⟨SEEN, 0, none⟩) neLS (.pointer (some ⟨C, 0, none⟩))
    have hS2 := (hS1.other (a := ⟨LOG, 0, none⟩) neSL (.slice a' (k + 1) cap')).set 0 (.pointer (some ⟨C, 0, none⟩))
    have hN2 := (hN1.other (a := ⟨LOG, 0, none⟩) neNL (.slice a' (k + 1) cap')).other (a := ⟨SEEN, 0, none⟩) neNS (.pointer (some ⟨C, 0, none⟩))
    have hb2 := (hb1.other (a := ⟨LOG, 0, none⟩) nebL (.slice a' (k + 1) cap')).other (a := ⟨SEEN, 0, none⟩) nebS (.pointer (some ⟨C, 0, none⟩))
    have hC2 := (hC1.other (a := ⟨LOG, 0, none⟩) neCL (.slice a' (k + 1) cap')).other (a := ⟨SEEN, 0, none⟩) neCS (.pointer (some ⟨C, 0, none⟩))
    have hlog2 : Log ((w1.setCell ⟨LOG, 0, none⟩ (.slice a' (k + 1) cap')).setCell ⟨SEEN, 0, none⟩ (.pointer (some ⟨C, 0, none⟩))) C (.slice a' (k + 1) cap') (k + 1) :=
      hlog1.of_blocks fun j hj _ => (Below.heap_setCell _ _ _ _ (by show j ≠ SEEN; omega)).trans (Below.heap_setCell _ _ _ _ (by show j ≠ LOG; omega))
    have kp2 : Kp C LOG SEEN w ((w1.setCell ⟨LOG, 0, none⟩ (.slice a' (k + 1) cap')).setCell ⟨SEEN, 0, none⟩ (.pointer (some ⟨C, 0, none⟩))) :=
      kp1.trans ⟨rfl, rfl, rfl, by simp [World.setCell], fun x _ h2 h3 => (Below.heap_setCell _ _ _ _ h3).trans (Below.heap_setCell _ _ _ _ h2)⟩
    generalize ((w1.setCell ⟨LOG, 0, none⟩ (.slice a' (k + 1) cap')).setCell ⟨SEEN, 0, none⟩ (.pointer (some ⟨C, 0, none⟩))) = W at *
    have n2 : W.cell? ⟨INN, 0, none⟩ = some (.func (Fn.func f) #[] #[.pointer (some ⟨b, 0, none⟩)]) := hN2.cell 0
    clear n1 s1 l1 fl fs hL1 hS1 hN1 hb1 hC1 kp1 hlog1
    have fin : ∀ w5, At w5 C (ctr tb (mdOf o md) (nxOf o nx)) 42 → Only C W w5 → (∃ lv', At w5 LOG #[lv'] 24 ∧ Log w5 C lv' (k + 1)) ∧ At w5 SEEN #[.pointer (some ⟨C, 0, none⟩)] 25 ∧ At w5 C (ctr tb (mdOf o md) (nxOf o nx)) 42 ∧ Kp C LOG SEEN w w5 :=
      fun w5 h5 on5 => ⟨⟨_, hL2.block (on5.block _ neLC), hlog2.of_blocks fun j hj _ => on5.block j (by omega)⟩, hS2.block (on5.block _ neSC), h5,
        kp2.trans ⟨on5.os, on5.tape, on5.output, by rw [on5.size]; exact Nat.le_refl _, fun x h1 _ _ => on5.block x (by omega)⟩⟩
    have hin2 := hin W hC2 hb2
    clear hin hL2 hS2 hN2 hb2 hC2 kp2 hlog2
    rcases hf with rfl | rfl | rfl
    · go_wp2_with (go_at_call 10; refine hin2.mono ?_; rintro e w5 ⟨rfl, h5, on5⟩)
      go_end0
      exact ⟨rfl, fin w5 h5 on5⟩
    · go_wp2_with (go_at_call 11; refine hin2.mono ?_; rintro e w5 ⟨rfl, h5, on5⟩)
      go_end0
      exact ⟨rfl, fin w5 h5 on5⟩
    · go_wp2_with (go_at_call 6; refine hin2.mono ?_; rintro e w5 ⟨rfl, h5, on5⟩)
      go_end0
      exact ⟨rfl, fin w5 h5 on5⟩
  · go_upto_region 5 with fail
    have hL2 := (hL1.set 0 (.slice a' (k + 1) cap'))
    have hS2 := (hS1.other (a := ⟨LOG, 0, none⟩) neSL (.slice a' (k + 1) cap'))
    have hN2 := (hN1.other (a := ⟨LOG, 0, none⟩) neNL (.slice a' (k + 1) cap'))
    have hb2 := (hb1.other (a := ⟨LOG, 0, none⟩) nebL (.slice a' (k + 1) cap'))
    have hC2 := (hC1.other (a := ⟨LOG, 0, none⟩) neCL (.slice a' (k + 1) cap'))
    have hlog2 : Log (w1.setCell ⟨LOG, 0, none⟩ (.slice a' (k + 1) cap')) C (.slice a' (k + 1) cap') (k + 1) :=
      hlog1.of_blocks fun j hj _ => (Below.heap_setCell _ _ _ _ (by show j ≠ LOG; omega))
    have kp2 : Kp C LOG SEEN w (w1.setCell ⟨LOG, 0, none⟩ (.slice a' (k + 1) cap')) :=
      kp1.trans ⟨rfl, rfl, rfl, by simp [World.setCell], fun x _ h2 h3 => (Below.heap_setCell _ _ _ _ h2)⟩
    generalize (w1.setCell ⟨LOG, 0, none⟩ (.slice a' (k + 1) cap')) = W at *
    have n2 : W.cell? ⟨INN, 0, none⟩ = some (.func (Fn.func f) #[] #[.pointer (some ⟨b, 0, none⟩)]) := hN2.cell 0
    clear n1 s1 l1 fl fs hL1 hS1 hN1 hb1 hC1 kp1 hlog1
    have fin : ∀ w5, At w5 C (ctr tb (mdOf o md) (nxOf o nx)) 42 → Only C W w5 → (∃ lv', At w5 LOG #[lv'] 24 ∧ Log w5 C lv' (k + 1)) ∧ At w5 SEEN #[.pointer (some ⟨C, 0, none⟩)] 25 ∧ At w5 C (ctr tb (mdOf o md) (nxOf o nx)) 42 ∧ Kp C LOG SEEN w w5 :=
      fun w5 h5 on5 => ⟨⟨_, hL2.block (on5.block _ neLC), hlog2.of_blocks fun j hj _ => on5.block j (by omega)⟩, hS2.block (on5.block _ neSC), h5,
        kp2.trans ⟨on5.os, on5.tape, on5.output, by rw [on5.size]; exact Nat.le_refl _, fun x h1 _ _ => on5.block x (by omega)⟩⟩
    have hin2 := hin W hC2 hb2
    clear hin hL2 hS2 hN2 hb2 hC2 kp2 hlog2
    rcases hf with rfl | rfl | rfl
    · go_wp2_with (go_at_call 10; refine hin2.mono ?_; rintro e w5 ⟨rfl, h5, on5⟩)
      go_end0
      exact ⟨rfl, fin w5 h5 on5⟩
    · go_wp2_with (go_at_call 11; refine hin2.mono ?_; rintro e w5 ⟨rfl, h5, on5⟩)
      go_end0
      exact ⟨rfl, fin w5 h5 on5⟩
    · go_wp2_with (go_at_call 6; refine hin2.mono ?_; rintro e w5 ⟨rfl, h5, on5⟩)
      go_end0
      exact ⟨rfl, fin w5 h5 on5⟩
end Go.Proofs.YbulkddtoFmt
