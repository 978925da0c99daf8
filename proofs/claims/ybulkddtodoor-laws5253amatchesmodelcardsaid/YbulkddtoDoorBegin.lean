import Derived.Test.YbulkddtoDoorMay
import Derived.Deep.RegionHeld3
namespace Go.Proofs.YbulkddtoDoor
open Go.RowKit
set_option linter.unusedVariables false

abbrev blk (m : Nat) (hp : Int) (up fr rb : Bool) (rd : Option Addr) : Array Value :=
  #[.int .u8 m, .int .u8 0, .int .u16 hp, .bool up, .bool fr, .bool rb, .pointer rd, .pointer none, .bool false, .pointer none, .bool false]

theorem Cnt.drew {w : World} {b o : Nat} {c : Nat → Int} (h : Cnt w b o c) : Cnt w.drew b o c := h
theorem Cnt.alloc {w : World} {b o : Nat} {c : Nat → Int} (h : Cnt w b o c) (ob : Obj) : Cnt (w.alloc ob) b o c := h.block (Below.heap_alloc _ _ _ h.lt)
theorem Tab.drew {w : World} (h : Tab w) : Tab w.drew := h
theorem Tab.alloc {w : World} (h : Tab w) (ob : Obj) : Tab (w.alloc ob) := h.block (Below.heap_alloc _ _ _ h.lt)
theorem cell_keep {w w' : World} {b i : Nat} {v : Value} (h : w.cell? ⟨b, i, none⟩ = some v) (e : w'.heap[b]? = w.heap[b]?) : w'.cell? ⟨b, i, none⟩ = some v := by
  unfold World.cell? at h ⊢; rw [e]; exact h
theorem cell_set_ne {w : World} {b i B o : Nat} {v u : Value} (h : w.cell? ⟨b, i, none⟩ = some u) (hne : b ≠ B) : (w.setCell ⟨B, o, none⟩ v).cell? ⟨b, i, none⟩ = some u := cell_keep h (Below.heap_setCell _ _ _ _ hne)
theorem cell_lt {w : World} {b i : Nat} {v : Value} (h : w.cell? ⟨b, i, none⟩ = some v) : b < w.heap.size := by
  unfold World.cell? at h
  by_cases hb : b < w.heap.size
  · exact hb
  · rw [Array.getElem?_eq_none (by simpa using hb)] at h; simp at h
def zb : Array Value := #[.int .u8 0, .int .u8 0, .int .u16 0, .bool false, .bool false, .bool false, .pointer none, .pointer none, .bool false, .pointer none, .bool false]

theorem below_cell {n B o : Nat} {w w6 : World} (h : Below n w w6) (hB : n ≤ B) (v : Value) : Below n w (w6.setCell ⟨B, o, none⟩ v) := h.setCell hB v
theorem below11 {n B : Nat} {w w6 : World} (h : Below n w w6) (hB : n ≤ B) (v0 v1 v2 v3 v4 v5 v6 v7 v8 v9 v10 : Value) :
    Below n w (((((((((((w6.setCell ⟨B, 0, none⟩ v0).setCell ⟨B, 1, none⟩ v1).setCell ⟨B, 2, none⟩ v2).setCell ⟨B, 3, none⟩ v3).setCell ⟨B, 4, none⟩ v4).setCell ⟨B, 5, none⟩ v5).setCell ⟨B, 6, none⟩ v6).setCell ⟨B, 7, none⟩ v7).setCell ⟨B, 8, none⟩ v8).setCell ⟨B, 9, none⟩ v9).setCell ⟨B, 10, none⟩ v10) :=
  below_cell (below_cell (below_cell (below_cell (below_cell (below_cell (below_cell (below_cell (below_cell (below_cell (below_cell h hB v0) hB v1) hB v2) hB v3) hB v4) hB v5) hB v6) hB v7) hB v8) hB v9) hB v10

theorem below_more {n n' : Nat} {a b c : World} (h1 : Below n a b) (h2 : Below n' b c) (hn : n ≤ n') : Below n a c :=
  h1.trans ⟨h2.os, h2.tape, h2.output, h2.size, fun k hk => h2.block k (by omega)⟩
theorem At.fill11 {w : World} {B : Nat} (h : At w B zb 55) (v0 v1 v2 v3 v4 v5 v6 v7 v8 v9 v10 : Value) :
    At (((((((((((w.setCell ⟨B, 0, none⟩ v0).setCell ⟨B, 1, none⟩ v1).setCell ⟨B, 2, none⟩ v2).setCell ⟨B, 3, none⟩ v3).setCell ⟨B, 4, none⟩ v4).setCell ⟨B, 5, none⟩ v5).setCell ⟨B, 6, none⟩ v6).setCell ⟨B, 7, none⟩ v7).setCell ⟨B, 8, none⟩ v8).setCell ⟨B, 9, none⟩ v9).setCell ⟨B, 10, none⟩ v10) B #[v0, v1, v2, v3, v4, v5, v6, v7, v8, v9, v10] 55 := by
  have e : ((((((((((((zb.setIfInBounds 0 v0).setIfInBounds 1 v1).setIfInBounds 2 v2).setIfInBounds 3 v3).setIfInBounds 4 v4).setIfInBounds 5 v5).setIfInBounds 6 v6).setIfInBounds 7 v7).setIfInBounds 8 v8).setIfInBounds 9 v9).setIfInBounds 10 v10)) = #[v0, v1, v2, v3, v4, v5, v6, v7, v8, v9, v10] := by simp [zb]
  rw [← e]
  exact ((((((((((h.set 0 v0).set 1 v1).set 2 v2).set 3 v3).set 4 v4).set 5 v5).set 6 v6).set 7 v7).set 8 v8).set 9 v9).set 10 v10
theorem At.past11 {w : World} {B b : Nat} {c : Array Value} {T : TypeId} (h : At w b c T) (hb : b ≠ B) (v0 v1 v2 v3 v4 v5 v6 v7 v8 v9 v10 : Value) :
    At (((((((((((w.setCell ⟨B, 0, none⟩ v0).setCell ⟨B, 1, none⟩ v1).setCell ⟨B, 2, none⟩ v2).setCell ⟨B, 3, none⟩ v3).setCell ⟨B, 4, none⟩ v4).setCell ⟨B, 5, none⟩ v5).setCell ⟨B, 6, none⟩ v6).setCell ⟨B, 7, none⟩ v7).setCell ⟨B, 8, none⟩ v8).setCell ⟨B, 9, none⟩ v9).setCell ⟨B, 10, none⟩ v10) b c T :=
  ((((((((((h.other hb v0).other hb v1).other hb v2).other hb v3).other hb v4).other hb v5).other hb v6).other hb v7).other hb v8).other hb v9).other hb v10

set_option maxHeartbeats 4000000 in
theorem begin_core (g wt gr : Nat → Int) (x y : Bool) (m Q P L : Nat) (hp : Int) (up : Bool) (pv : Option Addr) (hm : m < 5) (w : World) (hG : Cnt w Q 5 g) (hW : Cnt w Q 10 wt) (hR : Cnt w P 4 gr) (hT : Tab w)
    (p0 : w.cell? ⟨P, 0, none⟩ = some (.pointer (some ⟨Q, 0, none⟩))) (p3 : w.cell? ⟨P, 3, none⟩ = some (.pointer (some ⟨L, 0, none⟩)))
    (l14 : w.cell? ⟨L, 14, none⟩ = some (.pointer pv)) (hx : Hid ((conf g m 5 || conf wt m 5) = x)) (hy : Hid (conf gr m 5 = y)) (R : Ending → World → Prop)
    (e0 : ∀ w', x = false → Below w.heap.size w w' → R (.returned (.agg (blk m hp up true false none))) w')
    (e1 : ∀ w', x = true → y = false → Below w.heap.size w w' → R (.returned (.agg (blk m hp up false true pv))) w')
    (e2 : ∀ w', x = true → y = true → Below w.heap.size w w' → R (.returned (.agg (blk m hp up false false none))) w') :
    Calls Ybad.prog 4 #[.pointer (some ⟨P, 0, none⟩), .agg (req m hp up)] w R := by
  go_enter Ybad.func4, Ybad.ntmps4
  go_upto_region 1 with fail
  have hq := At.new w (req m hp up) 27
  have hB : Below w.heap.size w ((w.alloc (.cells (req m hp up) 27)).alloc (.cells zb 55)) := ((Below.refl _ _).alloc (by simp) _).alloc (by simp) _
  have hq2 := hq.alloc (.cells zb 55)
  have hz2 : At ((w.alloc (.cells (req m hp up) 27)).alloc (.cells zb 55)) (w.heap.size + 1) zb 55 := At.new' _ _ _ (by simp)
  have sz : ((w.alloc (.cells (req m hp up) 27)).alloc (.cells zb 55)).heap.size = w.heap.size + 2 := by simp
  have hG2 := hG.below hB
  have hW2 := hW.below hB
  have hT2 := hT.below hB
  have q0 : ((w.alloc (.cells (req m hp up) 27)).alloc (.cells zb 55)).cell? ⟨P, 0, none⟩ = some (.pointer (some ⟨Q, 0, none⟩)) := by
    have := hB.block P hR.lt
    unfold World.cell? at p0 ⊢; rw [this]; exact p0
  change Code.wp _ _ _ _ ((w.alloc (.cells (req m hp up) 27)).alloc (.cells zb 55))
  generalize ((w.alloc (.cells (req m hp up) 27)).alloc (.cells zb 55)) = w2 at *
  rename_i K hK
  have hk : ∀ (B : Nat) (w6 : World), At w6 B (blk m hp up (!x) false none) 55 → At w6 w.heap.size (req m hp up) 27 → At w6 (w.heap.size + 1) zb 55 → w.heap.size + 2 ≤ B → Below w.heap.size w w6 →
      K { tmps := #[.pointer (some ⟨P, 0, none⟩), .agg (req m hp up), undef, .pointer (some ⟨w.heap.size, 0, none⟩), .pointer (some ⟨w.heap.size + 1, 0, none⟩), .pointer (some ⟨B, 0, none⟩),
          .agg (req m hp up), .pointer (some ⟨P, 0, none⟩), .pointer (some ⟨P, 0, none⟩), .pointer (some ⟨P, 0, none⟩), .pointer (some ⟨Q, 0, none⟩), .agg (req m hp up), .bool x, .bool !x,
          .agg (blk m hp up (!x) false none), undef, undef, undef, undef, undef, undef, undef, undef, undef, undef, undef, undef, undef, undef, undef, undef, undef, undef, undef, undef, undef, undef], defers := [] } w6 := by
    intro B w6 hb hr hz hB6 b6
    apply hK
    clear hK
    have bc0 : w6.cell? ⟨B, 0, none⟩ = some (.int .u8 m) := hb.cell 0
    have bf0 := hb.frozen 0
    have bc1 : w6.cell? ⟨B, 1, none⟩ = some (.int .u8 0) := hb.cell 1
    have bf1 := hb.frozen 1
    have bc2 : w6.cell? ⟨B, 2, none⟩ = some (.int .u16 hp) := hb.cell 2
    have bf2 := hb.frozen 2
    have bc3 : w6.cell? ⟨B, 3, none⟩ = some (.bool up) := hb.cell 3
    have bf3 := hb.frozen 3
    have bc4 : w6.cell? ⟨B, 4, none⟩ = some (.bool (!x)) := hb.cell 4
    have bf4 := hb.frozen 4
    have bc5 : w6.cell? ⟨B, 5, none⟩ = some (.bool false) := hb.cell 5
    have bf5 := hb.frozen 5
    have bc6 : w6.cell? ⟨B, 6, none⟩ = some (.pointer none) := hb.cell 6
    have bf6 := hb.frozen 6
    have bc7 : w6.cell? ⟨B, 7, none⟩ = some (.pointer none) := hb.cell 7
    have bf7 := hb.frozen 7
    have bc8 : w6.cell? ⟨B, 8, none⟩ = some (.bool false) := hb.cell 8
    have bf8 := hb.frozen 8
    have bc9 : w6.cell? ⟨B, 9, none⟩ = some (.pointer none) := hb.cell 9
    have bf9 := hb.frozen 9
    have bc10 : w6.cell? ⟨B, 10, none⟩ = some (.bool false) := hb.cell 10
    have bf10 := hb.frozen 10
    have zc0 : w6.cell? ⟨w.heap.size + 1, 0, none⟩ = some (.int .u8 0) := hz.cell 0
    have zf0 := hz.frozen 0
    have zc1 : w6.cell? ⟨w.heap.size + 1, 1, none⟩ = some (.int .u8 0) := hz.cell 1
    have zf1 := hz.frozen 1
    have zc2 : w6.cell? ⟨w.heap.size + 1, 2, none⟩ = some (.int .u16 0) := hz.cell 2
    have zf2 := hz.frozen 2
    have zc3 : w6.cell? ⟨w.heap.size + 1, 3, none⟩ = some (.bool false) := hz.cell 3
    have zf3 := hz.frozen 3
    have zc4 : w6.cell? ⟨w.heap.size + 1, 4, none⟩ = some (.bool false) := hz.cell 4
    have zf4 := hz.frozen 4
    have zc5 : w6.cell? ⟨w.heap.size + 1, 5, none⟩ = some (.bool false) := hz.cell 5
    have zf5 := hz.frozen 5
    have zc6 : w6.cell? ⟨w.heap.size + 1, 6, none⟩ = some (.pointer none) := hz.cell 6
    have zf6 := hz.frozen 6
    have zc7 : w6.cell? ⟨w.heap.size + 1, 7, none⟩ = some (.pointer none) := hz.cell 7
    have zf7 := hz.frozen 7
    have zc8 : w6.cell? ⟨w.heap.size + 1, 8, none⟩ = some (.bool false) := hz.cell 8
    have zf8 := hz.frozen 8
    have zc9 : w6.cell? ⟨w.heap.size + 1, 9, none⟩ = some (.pointer none) := hz.cell 9
    have zf9 := hz.frozen 9
    have zc10 : w6.cell? ⟨w.heap.size + 1, 10, none⟩ = some (.bool false) := hz.cell 10
    have zf10 := hz.frozen 10
    have hR6 := hR.below b6
    have hT6 := hT.below b6
    have ltL : L < w.heap.size := cell_lt l14
    have rr0 : w6.cell? ⟨w.heap.size, 0, none⟩ = some (.int .u8 m) := hr.cell 0
    have pp3 := cell_keep p3 (b6.block P hR.lt)
    have ll14 := cell_keep l14 (b6.block L ltL)
    have ltP0 := hR.lt
    have hA : ∀ n, Calls Ybad.prog 7 #[.pointer (some ⟨P, 4, none⟩), .int .u8 m] (w6.drewN n) fun e w' => e = .returned (.bool (conf gr m 5)) ∧ ∃ q, w' = w6.drewN q :=
      fun n => Calls.quiet_of (confl_any gr m P 4 hm _ (hR6.drewN n) (hT6.drewN n))
    rw [hy.out] at hA
    have neB : B ≠ w.heap.size + 1 := by omega
    have neB' : w.heap.size + 1 ≠ B := by omega
    have hnB : w.heap.size ≤ B := by omega
    clear hG hW hR hT p0 p3 l14 hq hB hq2 hz2 hG2 hW2 hT2 q0 hR6 hT6
    cases x
    · go_wp2_with fail
      go_quiet (fail)
      go_wp2
      refine bodyPost_ret (v := .agg (blk m hp up true false none)) (by simp [results, Ybad.results4, go_sem, *]) rfl (e0 _ (by simp) ?_)
      with_reducible refine below11 ?_ (Nat.le_succ _) _ _ _ _ _ _ _ _ _ _ _
      with_reducible exact below_drewN b6 nq
    · cases y
      · go_wp2_with fail
        go_quiet ((go_at_call 7; with_reducible exact hA _))
        go_wp2
        refine bodyPost_ret (v := .agg (blk m hp up false true pv)) (by simp [results, Ybad.results4, go_sem, *]) rfl (e1 _ (by simp) (by simp) ?_)
        with_reducible refine below11 ?_ (Nat.le_succ _) _ _ _ _ _ _ _ _ _ _ _
        with_reducible refine below_cell (below_cell ?_ hnB _) hnB _
        with_reducible exact below_drewN b6 nq
      · go_wp2_with fail
        go_quiet ((go_at_call 7; with_reducible exact hA _))
        go_wp2
        refine bodyPost_ret (v := .agg (blk m hp up false false none)) (by simp [results, Ybad.results4, go_sem, *]) rfl (e2 _ (by simp) (by simp) ?_)
        with_reducible refine below11 ?_ (Nat.le_succ _) _ _ _ _ _ _ _ _ _ _ _
        with_reducible exact below_drewN b6 nq
  have r0 : w2.cell? ⟨w.heap.size, 0, none⟩ = some (.int .u8 m) := hq2.cell 0
  have r1 : w2.cell? ⟨w.heap.size, 1, none⟩ = some (.int .u8 0) := hq2.cell 1
  have r2 : w2.cell? ⟨w.heap.size, 2, none⟩ = some (.int .u16 hp) := hq2.cell 2
  have r3 : w2.cell? ⟨w.heap.size, 3, none⟩ = some (.bool up) := hq2.cell 3
  have lt2 : w.heap.size < w2.heap.size := by omega
  have ltP0 : P < w.heap.size := hR.lt
  have ltP1 : P < w.heap.size + 2 := by omega
  have ltP2 : P < w2.heap.size := by omega
  have neP : P ≠ w.heap.size + 2 := by omega
  have hmay := fun w (h1 : Cnt w Q 5 g) (h2 : Cnt w Q 10 wt) (h3 : Tab w) => may_any g wt m Q hp up hm w h1 h2 h3
  rw [hx.out] at hmay
  go_region_held3 (fun w' => w'.cell? ⟨w.heap.size, 0, none⟩ = some (.int .u8 m) ∧ w'.cell? ⟨w.heap.size, 1, none⟩ = some (.int .u8 0) ∧ w'.cell? ⟨w.heap.size, 2, none⟩ = some (.int .u16 hp) ∧ w'.cell? ⟨w.heap.size, 3, none⟩ = some (.bool up) ∧ w'.cell? ⟨P, 0, none⟩ = some (.pointer (some ⟨Q, 0, none⟩))) (first | (go_keep; done) | (simp [*]; done) | (refine ⟨?_, ?_, ?_, ?_, ?_⟩ <;> (repeat (refine cell_set_ne ?_ (by omega))) <;> (first | assumption | (simp [*]; done))) | (trace "KEEP"; trace_state; fail))
    (first | (go_at_call 6; refine (hmay _ (by first | exact hG2.drew | exact hG2.drew.alloc _) (by first | exact hW2.drew | exact hW2.drew.alloc _) (by first | exact hT2.drew | exact hT2.drew.alloc _)).mono ?_; rintro e w5 ⟨rfl, b5⟩; have hq5 : At w5 w.heap.size (req m hp up) 27 := (by first | exact hq2.drew.below b5 | exact (hq2.drew.alloc _).below b5); have s0 : w5.cell? ⟨w.heap.size, 0, none⟩ = some (.int .u8 m) := hq5.cell 0; have s1 : w5.cell? ⟨w.heap.size, 1, none⟩ = some (.int .u8 0) := hq5.cell 1; have s2 : w5.cell? ⟨w.heap.size, 2, none⟩ = some (.int .u16 hp) := hq5.cell 2; have s3 : w5.cell? ⟨w.heap.size, 3, none⟩ = some (.bool up) := hq5.cell 3; have lt5 := hq5.lt; have ltP5 : P < w5.heap.size := (by omega); have neP5 : P ≠ w5.heap.size := (by omega); have neN5 : w.heap.size ≠ w5.heap.size := (by omega); have s4 : w5.cell? ⟨P, 0, none⟩ = some (.pointer (some ⟨Q, 0, none⟩)) := (by first | exact cell_keep q0 (b5.block P ltP2) | exact cell_keep q0 ((b5.block P (by simp; omega)).trans (Below.heap_alloc _ _ _ ltP2))); first | (have z5 : At w5 (w.heap.size + 2) zb 55 := (At.new' w2.drew zb 55 sz).below b5; have zc0 : w5.cell? ⟨w.heap.size + 2, 0, none⟩ = some (.int .u8 0) := z5.cell 0; have zf0 := z5.frozen 0; have zc1 : w5.cell? ⟨w.heap.size + 2, 1, none⟩ = some (.int .u8 0) := z5.cell 1; have zf1 := z5.frozen 1; have zc2 : w5.cell? ⟨w.heap.size + 2, 2, none⟩ = some (.int .u16 0) := z5.cell 2; have zf2 := z5.frozen 2; have zc3 : w5.cell? ⟨w.heap.size + 2, 3, none⟩ = some (.bool false) := z5.cell 3; have zf3 := z5.frozen 3; have zc4 : w5.cell? ⟨w.heap.size + 2, 4, none⟩ = some (.bool false) := z5.cell 4; have zf4 := z5.frozen 4; have zc5 : w5.cell? ⟨w.heap.size + 2, 5, none⟩ = some (.bool false) := z5.cell 5; have zf5 := z5.frozen 5; have zc6 : w5.cell? ⟨w.heap.size + 2, 6, none⟩ = some (.pointer none) := z5.cell 6; have zf6 := z5.frozen 6; have zc7 : w5.cell? ⟨w.heap.size + 2, 7, none⟩ = some (.pointer none) := z5.cell 7; have zf7 := z5.frozen 7; have zc8 : w5.cell? ⟨w.heap.size + 2, 8, none⟩ = some (.bool false) := z5.cell 8; have zf8 := z5.frozen 8; have zc9 : w5.cell? ⟨w.heap.size + 2, 9, none⟩ = some (.pointer none) := z5.cell 9; have zf9 := z5.frozen 9; have zc10 : w5.cell? ⟨w.heap.size + 2, 10, none⟩ = some (.bool false) := z5.cell 10; have zf10 := z5.frozen 10) | skip))
  · have hb5 : Below w.heap.size w w5 := below_more (b := w2.drew) hB.drew b5 (by show _ ≤ w2.heap.size; omega)
    have sz5 : w.heap.size + 2 ≤ w5.heap.size := by have := b5.size; have e : w2.drew.heap.size = w2.heap.size := rfl; omega
    show K _ _
    with_reducible exact hk w5.heap.size _ (At.new _ _ _) (hq5.alloc _) ((hz2.drew.below b5).alloc _) sz5 (hb5.alloc (by omega) _)
  · have hb5 : Below w.heap.size w w5 := below_more (b := w2.drew.alloc (.cells zb 55)) (hB.drew.alloc (by show _ ≤ w2.heap.size; omega) _) b5 (by simp; omega)
    have hz5 : At w5 (w.heap.size + 1) zb 55 := (hz2.drew.alloc _).below b5
    have z5 : At w5 (w.heap.size + 2) zb 55 := (At.new' w2.drew zb 55 sz).below b5
    have n1 : w.heap.size ≠ w.heap.size + 2 := by omega
    have n2 : w.heap.size + 1 ≠ w.heap.size + 2 := by omega
    have n3 : w.heap.size ≤ w.heap.size + 2 := by omega
    show K _ _
    with_reducible exact hk (w.heap.size + 2) _ (z5.fill11 _ _ _ _ _ _ _ _ _ _ _) (hq5.past11 n1 _ _ _ _ _ _ _ _ _ _ _) (hz5.past11 n2 _ _ _ _ _ _ _ _ _ _ _) (Nat.le_refl _) (below11 hb5 n3 _ _ _ _ _ _ _ _ _ _ _)

theorem begin_any (g wt gr : Nat → Int) (x y : Bool) (m Q P L : Nat) (hp : Int) (up : Bool) (pv : Option Addr) (hm : m < 5) (w : World) (hG : Cnt w Q 5 g) (hW : Cnt w Q 10 wt) (hR : Cnt w P 4 gr) (hT : Tab w)
    (p0 : w.cell? ⟨P, 0, none⟩ = some (.pointer (some ⟨Q, 0, none⟩))) (p3 : w.cell? ⟨P, 3, none⟩ = some (.pointer (some ⟨L, 0, none⟩)))
    (l14 : w.cell? ⟨L, 14, none⟩ = some (.pointer pv)) (hx : (conf g m 5 || conf wt m 5) = x) (hy : conf gr m 5 = y) :
    Calls Ybad.prog 4 #[.pointer (some ⟨P, 0, none⟩), .agg (req m hp up)] w fun e w' =>
      e = .returned (.agg (blk m hp up (!x) (x && !y) (if x && !y then pv else none))) ∧ Below w.heap.size w w' :=
  begin_core g wt gr x y m Q P L hp up pv hm w hG hW hR hT p0 p3 l14 hx hy _ (fun w' a b => ⟨by subst a; rfl, b⟩) (fun w' a a' b => ⟨by rw [a, a']; rfl, b⟩) (fun w' a a' b => ⟨by rw [a, a']; rfl, b⟩)
end Go.Proofs.YbulkddtoDoor
