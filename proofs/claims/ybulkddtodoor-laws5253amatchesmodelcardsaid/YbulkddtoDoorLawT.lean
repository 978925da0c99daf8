import Derived.Test.YbulkddtoDoorLawHead
namespace Go.Proofs.YbulkddtoDoor
open Go.RowKit
set_option linter.unusedVariables false
attribute [local go_sem] zero59 eq41 neq28 neq33 eql33 eq34

set_option maxRecDepth 100000 in
set_option maxHeartbeats 4000000 in
theorem law_true (g wt gr : Nat → Int) (n m : Nat) (hn : n < 256) (hm : n % 5 = m) (hp : Int) (up : Bool) (a b y : Bool) (ha : Hid (conf g m 5 = a)) (hb : Hid (conf wt m 5 = b)) (hy : Hid (conf gr m 5 = y)) (w : World) (hT : Tab w) :
    Calls Ybad.prog 3 #[.agg (cells5 g), .agg (cells5 wt), .agg (cells5 gr), .int .u8 n, .int .u16 hp, .bool up, .bool true] w fun e w' => e = .returned (.bool true) ∧ Below w.heap.size w w' := by
  go_enter Ybad.func3, Ybad.ntmps3
  go_upto_region 11 with fail
  have en : ((n : Int) % 5) = (m : Int) := by omega
  rw [en]
  generalize hw9 : World.alloc _ _ = w9
  have hG9 : At w9 (w.heap.size) (cells5 g) 22 := by
    rw [← hw9]
    refine At.alloc ?_ _
    refine At.alloc ?_ _
    refine At.alloc ?_ _
    refine At.alloc ?_ _
    refine At.alloc ?_ _
    refine At.alloc ?_ _
    refine At.alloc ?_ _
    exact At.new' _ _ _ (by simp)
  have hW9 : At w9 (w.heap.size + 1) (cells5 wt) 22 := by
    rw [← hw9]
    refine At.alloc ?_ _
    refine At.alloc ?_ _
    refine At.alloc ?_ _
    refine At.alloc ?_ _
    refine At.alloc ?_ _
    refine At.alloc ?_ _
    exact At.new' _ _ _ (by simp)
  have hR9 : At w9 (w.heap.size + 1 + 1) (cells5 gr) 22 := by
    rw [← hw9]
    refine At.alloc ?_ _
    refine At.alloc ?_ _
    refine At.alloc ?_ _
    refine At.alloc ?_ _
    refine At.alloc ?_ _
    exact At.new' _ _ _ (by simp)
  have hq9 : At w9 (w.heap.size + 1 + 1 + 1) (req m hp up) 27 := by
    rw [← hw9]
    refine At.alloc ?_ _
    refine At.alloc ?_ _
    refine At.alloc ?_ _
    refine At.alloc ?_ _
    exact At.new' _ _ _ (by simp)
  have hQ9 : At w9 (w.heap.size + 1 + 1 + 1 + 1) (queueC g wt) 40 := by
    rw [← hw9]
    refine At.alloc ?_ _
    refine At.alloc ?_ _
    refine At.alloc ?_ _
    exact At.new' _ _ _ (by simp)
  have hL9 : At w9 (w.heap.size + 1 + 1 + 1 + 1 + 1 + 1) (lockC (some ⟨w.heap.size + 1 + 1 + 1 + 1 + 1, 0, none⟩)) 47 := by
    rw [← hw9]
    refine At.alloc ?_ _
    exact At.new' _ _ _ (by simp)
  have hP9 : At w9 (w.heap.size + 1 + 1 + 1 + 1 + 1 + 1 + 1) (passC gr (w.heap.size + 1 + 1 + 1 + 1) (w.heap.size + 1 + 1 + 1 + 1 + 1 + 1)) 59 := by
    rw [← hw9]
    exact At.new' _ _ _ (by simp)
  have b9 : Below w.heap.size w w9 := by
    rw [← hw9]
    refine Below.alloc ?_ (by simp <;> omega) _
    refine Below.alloc ?_ (by simp <;> omega) _
    refine Below.alloc ?_ (by simp <;> omega) _
    refine Below.alloc ?_ (by simp <;> omega) _
    refine Below.alloc ?_ (by simp <;> omega) _
    refine Below.alloc ?_ (by simp <;> omega) _
    refine Below.alloc ?_ (by simp <;> omega) _
    refine Below.alloc ?_ (by simp <;> omega) _
    exact Below.refl _ _
  have hT9 : Tab w9 := hT.below b9
  clear hw9
  have pvlt : w.heap.size + 1 + 1 + 1 + 1 + 1 < w9.heap.size := by have := hP9.lt; omega
  generalize eP : w.heap.size + 1 + 1 + 1 + 1 + 1 + 1 + 1 = P at *
  generalize eL : w.heap.size + 1 + 1 + 1 + 1 + 1 + 1 = L at *
  generalize ePv : (some ({ block := w.heap.size + 1 + 1 + 1 + 1 + 1, off := 0 } : Addr)) = pv at *
  generalize eQ : w.heap.size + 1 + 1 + 1 + 1 = Q at *
  generalize eq : w.heap.size + 1 + 1 + 1 = q at *
  generalize eR : w.heap.size + 1 + 1 = R at *
  generalize eW : w.heap.size + 1 = V at *
  have leG := b9.size
  have hm5 : m < 5 := by omega
  have cG : Cnt w9 Q 5 g := by
    intro i hi
    rw [hQ9.cell]
    have h1 : i = 0 ∨ i = 1 ∨ i = 2 ∨ i = 3 ∨ i = 4 := by omega
    rcases h1 with rfl | rfl | rfl | rfl | rfl <;> rfl
  have cW : Cnt w9 Q 10 wt := by
    intro i hi
    rw [hQ9.cell]
    have h1 : i = 0 ∨ i = 1 ∨ i = 2 ∨ i = 3 ∨ i = 4 := by omega
    rcases h1 with rfl | rfl | rfl | rfl | rfl <;> rfl
  have cR : Cnt w9 P 4 gr := by
    intro i hi
    rw [hP9.cell]
    have h1 : i = 0 ∨ i = 1 ∨ i = 2 ∨ i = 3 ∨ i = 4 := by omega
    rcases h1 with rfl | rfl | rfl | rfl | rfl <;> rfl
  have r0 : w9.cell? ⟨q, 0, none⟩ = some (.int .u8 m) := hq9.cell 0
  have r1 : w9.cell? ⟨q, 1, none⟩ = some (.int .u8 0) := hq9.cell 1
  have r2 : w9.cell? ⟨q, 2, none⟩ = some (.int .u16 hp) := hq9.cell 2
  have r3 : w9.cell? ⟨q, 3, none⟩ = some (.bool up) := hq9.cell 3
  have hbeg := begin_any g wt gr (a || b) y m Q P L hp up pv hm5 w9 cG cW cR hT9 (hP9.cell 0) (hP9.cell 3) (hL9.cell 14) (by rw [ha.out, hb.out]) hy.out
  clear cG cW cR
  obtain ⟨x, ex⟩ : ∃ x, Hid ((a || b) = x) := ⟨_, rfl⟩
  rw [ex.out] at hbeg
  obtain ⟨z, ez⟩ : ∃ z, Hid ((x && !y) = z) := ⟨_, rfl⟩
  rw [ez.out] at hbeg
  obtain ⟨rd, er⟩ : ∃ rd, Hid ((if z = true then pv else none) = rd) := ⟨_, rfl⟩
  rw [er.out] at hbeg
  clear eP eL ePv pvlt eQ eq eR eW
  go_upto_region 12 with (go_at_call 4; refine hbeg.mono ?_; rintro e w10 ⟨rfl, b10⟩)
  clear r0 r1 r2 r3 hbeg
  have bw10 : Below w.heap.size w w10 := below_more b9 b10 leG
  generalize hw11 : World.alloc _ _ = w11
  have hG : At w11 w.heap.size (cells5 g) 22 := by rw [← hw11]; exact (hG9.below b10).alloc _
  have hV : At w11 V (cells5 wt) 22 := by rw [← hw11]; exact (hW9.below b10).alloc _
  have hR : At w11 R (cells5 gr) 22 := by rw [← hw11]; exact (hR9.below b10).alloc _
  have hq : At w11 q (req m hp up) 27 := by rw [← hw11]; exact (hq9.below b10).alloc _
  have hQ : At w11 Q (queueC g wt) 40 := by rw [← hw11]; exact (hQ9.below b10).alloc _
  have hL : At w11 L (lockC pv) 47 := by rw [← hw11]; exact (hL9.below b10).alloc _
  have hP : At w11 P (passC gr Q L) 59 := by rw [← hw11]; exact (hP9.below b10).alloc _
  have hB : At w11 w10.heap.size (blk m hp up (!x) z rd) 55 := by rw [← hw11]; exact At.new _ _ _
  have b11 : Below w.heap.size w w11 := by rw [← hw11]; exact bw10.alloc bw10.size _
  clear hw11 hG9 hW9 hR9 hq9 hQ9 hL9 hP9 b9 b10 bw10 hT9 hT leG
  generalize w10.heap.size = B at *
  have zg : ∀ w, Calls Ybad.prog 5 #[.agg (cells5 g), .int .i64 m] w fun e w' => e = .returned (.bool a) ∧ Below w.heap.size w w' := fun w => by rw [← ha.out]; exact zconfl_any g m hm5 w
  have zw : ∀ w, Calls Ybad.prog 5 #[.agg (cells5 wt), .int .i64 m] w fun e w' => e = .returned (.bool b) ∧ Below w.heap.size w w' := fun w => by rw [← hb.out]; exact zconfl_any wt m hm5 w
  have zr : ∀ w, Calls Ybad.prog 5 #[.agg (cells5 gr), .int .i64 m] w fun e w' => e = .returned (.bool y) ∧ Below w.heap.size w w' := fun w => by rw [← hy.out]; exact zconfl_any gr m hm5 w
  clear ha hb hy
  cases a
  · cases b
    · cases y
      · obtain rfl : x = false := by rw [← ex.out]; rfl
        obtain rfl : z = false := by rw [← ez.out]; rfl
        obtain rfl : none = rd := by rw [← er.out]; rfl
        clear ex ez er
        have cg0 : w11.cell? ⟨w.heap.size, 0, none⟩ = some (.int .i32 (g 0)) := hG.cell 0
        have cg1 : w11.cell? ⟨w.heap.size, 1, none⟩ = some (.int .i32 (g 1)) := hG.cell 1
        have cg2 : w11.cell? ⟨w.heap.size, 2, none⟩ = some (.int .i32 (g 2)) := hG.cell 2
        have cg3 : w11.cell? ⟨w.heap.size, 3, none⟩ = some (.int .i32 (g 3)) := hG.cell 3
        have cg4 : w11.cell? ⟨w.heap.size, 4, none⟩ = some (.int .i32 (g 4)) := hG.cell 4
        go_upto_region 13 with (first | (go_at_call 5; have b12o := b12; refine (zw _).mono ?_; rintro e w13 ⟨rfl, b12'⟩) | (go_at_call 5; refine (zg _).mono ?_; rintro e w12 ⟨rfl, b12⟩; have hV12 := hV.below b12; have cv0 : w12.cell? ⟨V, 0, none⟩ = some (.int .i32 (wt 0)) := hV12.cell 0; have cv1 : w12.cell? ⟨V, 1, none⟩ = some (.int .i32 (wt 1)) := hV12.cell 1; have cv2 : w12.cell? ⟨V, 2, none⟩ = some (.int .i32 (wt 2)) := hV12.cell 2; have cv3 : w12.cell? ⟨V, 3, none⟩ = some (.int .i32 (wt 3)) := hV12.cell 3; have cv4 : w12.cell? ⟨V, 4, none⟩ = some (.int .i32 (wt 4)) := hV12.cell 4))
        have hG3 := (hG.below b12).below b12'
        have hV3 := (hV.below b12).below b12'
        have hR3 := (hR.below b12).below b12'
        have hq3 := (hq.below b12).below b12'
        have hQ3 := (hQ.below b12).below b12'
        have hL3 := (hL.below b12).below b12'
        have hP3 := (hP.below b12).below b12'
        have hB3 := (hB.below b12).below b12'
        have b13 : Below w.heap.size w w13 := by
          have h1 := below_more b11 b12 b11.size
          exact below_more h1 b12' h1.size
        clear b11 b12 b12' hV12 hG hV hR hq hQ hL hP hB cg0 cv0 cg1 cv1 cg2 cv2 cg3 cv3 cg4 cv4
        have cg0 : w13.cell? ⟨w.heap.size, 0, none⟩ = some (.int .i32 (g 0)) := hG3.cell 0
        have cg1 : w13.cell? ⟨w.heap.size, 1, none⟩ = some (.int .i32 (g 1)) := hG3.cell 1
        have cg2 : w13.cell? ⟨w.heap.size, 2, none⟩ = some (.int .i32 (g 2)) := hG3.cell 2
        have cg3 : w13.cell? ⟨w.heap.size, 3, none⟩ = some (.int .i32 (g 3)) := hG3.cell 3
        have cg4 : w13.cell? ⟨w.heap.size, 4, none⟩ = some (.int .i32 (g 4)) := hG3.cell 4
        have cv0 : w13.cell? ⟨V, 0, none⟩ = some (.int .i32 (wt 0)) := hV3.cell 0
        have cv1 : w13.cell? ⟨V, 1, none⟩ = some (.int .i32 (wt 1)) := hV3.cell 1
        have cv2 : w13.cell? ⟨V, 2, none⟩ = some (.int .i32 (wt 2)) := hV3.cell 2
        have cv3 : w13.cell? ⟨V, 3, none⟩ = some (.int .i32 (wt 3)) := hV3.cell 3
        have cv4 : w13.cell? ⟨V, 4, none⟩ = some (.int .i32 (wt 4)) := hV3.cell 4
        have cr0 : w13.cell? ⟨R, 0, none⟩ = some (.int .i32 (gr 0)) := hR3.cell 0
        have cr1 : w13.cell? ⟨R, 1, none⟩ = some (.int .i32 (gr 1)) := hR3.cell 1
        have cr2 : w13.cell? ⟨R, 2, none⟩ = some (.int .i32 (gr 2)) := hR3.cell 2
        have cr3 : w13.cell? ⟨R, 3, none⟩ = some (.int .i32 (gr 3)) := hR3.cell 3
        have cr4 : w13.cell? ⟨R, 4, none⟩ = some (.int .i32 (gr 4)) := hR3.cell 4
        have cq0 : w13.cell? ⟨q, 0, none⟩ = some (.int .u8 m) := hq3.cell 0
        have cq1 : w13.cell? ⟨q, 1, none⟩ = some (.int .u8 0) := hq3.cell 1
        have cq2 : w13.cell? ⟨q, 2, none⟩ = some (.int .u16 hp) := hq3.cell 2
        have cq3 : w13.cell? ⟨q, 3, none⟩ = some (.bool up) := hq3.cell 3
        have cQ5 : w13.cell? ⟨Q, 5, none⟩ = some (.int .i32 (g 0)) := hQ3.cell 5
        have cQ6 : w13.cell? ⟨Q, 6, none⟩ = some (.int .i32 (g 1)) := hQ3.cell 6
        have cQ7 : w13.cell? ⟨Q, 7, none⟩ = some (.int .i32 (g 2)) := hQ3.cell 7
        have cQ8 : w13.cell? ⟨Q, 8, none⟩ = some (.int .i32 (g 3)) := hQ3.cell 8
        have cQ9 : w13.cell? ⟨Q, 9, none⟩ = some (.int .i32 (g 4)) := hQ3.cell 9
        have cQ10 : w13.cell? ⟨Q, 10, none⟩ = some (.int .i32 (wt 0)) := hQ3.cell 10
        have cQ11 : w13.cell? ⟨Q, 11, none⟩ = some (.int .i32 (wt 1)) := hQ3.cell 11
        have cQ12 : w13.cell? ⟨Q, 12, none⟩ = some (.int .i32 (wt 2)) := hQ3.cell 12
        have cQ13 : w13.cell? ⟨Q, 13, none⟩ = some (.int .i32 (wt 3)) := hQ3.cell 13
        have cQ14 : w13.cell? ⟨Q, 14, none⟩ = some (.int .i32 (wt 4)) := hQ3.cell 14
        have cL14 : w13.cell? ⟨L, 14, none⟩ = some (.pointer pv) := hL3.cell 14
        have cP0 : w13.cell? ⟨P, 0, none⟩ = some (.pointer (some ⟨Q, 0, none⟩)) := hP3.cell 0
        have cP3 : w13.cell? ⟨P, 3, none⟩ = some (.pointer (some ⟨L, 0, none⟩)) := hP3.cell 3
        have cP4 : w13.cell? ⟨P, 4, none⟩ = some (.int .i32 (gr 0)) := hP3.cell 4
        have cP5 : w13.cell? ⟨P, 5, none⟩ = some (.int .i32 (gr 1)) := hP3.cell 5
        have cP6 : w13.cell? ⟨P, 6, none⟩ = some (.int .i32 (gr 2)) := hP3.cell 6
        have cP7 : w13.cell? ⟨P, 7, none⟩ = some (.int .i32 (gr 3)) := hP3.cell 7
        have cP8 : w13.cell? ⟨P, 8, none⟩ = some (.int .i32 (gr 4)) := hP3.cell 8
        have cB0 : w13.cell? ⟨B, 0, none⟩ = some (.int .u8 m) := hB3.cell 0
        have cB1 : w13.cell? ⟨B, 1, none⟩ = some (.int .u8 0) := hB3.cell 1
        have cB2 : w13.cell? ⟨B, 2, none⟩ = some (.int .u16 hp) := hB3.cell 2
        have cB3 : w13.cell? ⟨B, 3, none⟩ = some (.bool up) := hB3.cell 3
        have cB4 : w13.cell? ⟨B, 4, none⟩ = some (.bool true) := hB3.cell 4
        have cB5 : w13.cell? ⟨B, 5, none⟩ = some (.bool false) := hB3.cell 5
        have cB6 : w13.cell? ⟨B, 6, none⟩ = some (.pointer none) := hB3.cell 6
        have cB7 : w13.cell? ⟨B, 7, none⟩ = some (.pointer none) := hB3.cell 7
        have cB8 : w13.cell? ⟨B, 8, none⟩ = some (.bool false) := hB3.cell 8
        have cB9 : w13.cell? ⟨B, 9, none⟩ = some (.pointer none) := hB3.cell 9
        have cB10 : w13.cell? ⟨B, 10, none⟩ = some (.bool false) := hB3.cell 10
        have ltB := hB3.lt
        clear hG3 hV3 hR3 hq3 hQ3 hL3 hP3 hB3
        go_upto_region 17 with fail
        go_quiet (fail)
        go_upto_region 19 with fail
        go_quiet (fail)
        go_wp2
        go_ret
        exact ⟨rfl, below_drewN b13 _⟩
      · obtain rfl : x = false := by rw [← ex.out]; rfl
        obtain rfl : z = false := by rw [← ez.out]; rfl
        obtain rfl : none = rd := by rw [← er.out]; rfl
        clear ex ez er
        have cg0 : w11.cell? ⟨w.heap.size, 0, none⟩ = some (.int .i32 (g 0)) := hG.cell 0
        have cg1 : w11.cell? ⟨w.heap.size, 1, none⟩ = some (.int .i32 (g 1)) := hG.cell 1
        have cg2 : w11.cell? ⟨w.heap.size, 2, none⟩ = some (.int .i32 (g 2)) := hG.cell 2
        have cg3 : w11.cell? ⟨w.heap.size, 3, none⟩ = some (.int .i32 (g 3)) := hG.cell 3
        have cg4 : w11.cell? ⟨w.heap.size, 4, none⟩ = some (.int .i32 (g 4)) := hG.cell 4
        go_upto_region 13 with (first | (go_at_call 5; have b12o := b12; refine (zw _).mono ?_; rintro e w13 ⟨rfl, b12'⟩) | (go_at_call 5; refine (zg _).mono ?_; rintro e w12 ⟨rfl, b12⟩; have hV12 := hV.below b12; have cv0 : w12.cell? ⟨V, 0, none⟩ = some (.int .i32 (wt 0)) := hV12.cell 0; have cv1 : w12.cell? ⟨V, 1, none⟩ = some (.int .i32 (wt 1)) := hV12.cell 1; have cv2 : w12.cell? ⟨V, 2, none⟩ = some (.int .i32 (wt 2)) := hV12.cell 2; have cv3 : w12.cell? ⟨V, 3, none⟩ = some (.int .i32 (wt 3)) := hV12.cell 3; have cv4 : w12.cell? ⟨V, 4, none⟩ = some (.int .i32 (wt 4)) := hV12.cell 4))
        have hG3 := (hG.below b12).below b12'
        have hV3 := (hV.below b12).below b12'
        have hR3 := (hR.below b12).below b12'
        have hq3 := (hq.below b12).below b12'
        have hQ3 := (hQ.below b12).below b12'
        have hL3 := (hL.below b12).below b12'
        have hP3 := (hP.below b12).below b12'
        have hB3 := (hB.below b12).below b12'
        have b13 : Below w.heap.size w w13 := by
          have h1 := below_more b11 b12 b11.size
          exact below_more h1 b12' h1.size
        clear b11 b12 b12' hV12 hG hV hR hq hQ hL hP hB cg0 cv0 cg1 cv1 cg2 cv2 cg3 cv3 cg4 cv4
        have cg0 : w13.cell? ⟨w.heap.size, 0, none⟩ = some (.int .i32 (g 0)) := hG3.cell 0
        have cg1 : w13.cell? ⟨w.heap.size, 1, none⟩ = some (.int .i32 (g 1)) := hG3.cell 1
        have cg2 : w13.cell? ⟨w.heap.size, 2, none⟩ = some (.int .i32 (g 2)) := hG3.cell 2
        have cg3 : w13.cell? ⟨w.heap.size, 3, none⟩ = some (.int .i32 (g 3)) := hG3.cell 3
        have cg4 : w13.cell? ⟨w.heap.size, 4, none⟩ = some (.int .i32 (g 4)) := hG3.cell 4
        have cv0 : w13.cell? ⟨V, 0, none⟩ = some (.int .i32 (wt 0)) := hV3.cell 0
        have cv1 : w13.cell? ⟨V, 1, none⟩ = some (.int .i32 (wt 1)) := hV3.cell 1
        have cv2 : w13.cell? ⟨V, 2, none⟩ = some (.int .i32 (wt 2)) := hV3.cell 2
        have cv3 : w13.cell? ⟨V, 3, none⟩ = some (.int .i32 (wt 3)) := hV3.cell 3
        have cv4 : w13.cell? ⟨V, 4, none⟩ = some (.int .i32 (wt 4)) := hV3.cell 4
        have cr0 : w13.cell? ⟨R, 0, none⟩ = some (.int .i32 (gr 0)) := hR3.cell 0
        have cr1 : w13.cell? ⟨R, 1, none⟩ = some (.int .i32 (gr 1)) := hR3.cell 1
        have cr2 : w13.cell? ⟨R, 2, none⟩ = some (.int .i32 (gr 2)) := hR3.cell 2
        have cr3 : w13.cell? ⟨R, 3, none⟩ = some (.int .i32 (gr 3)) := hR3.cell 3
        have cr4 : w13.cell? ⟨R, 4, none⟩ = some (.int .i32 (gr 4)) := hR3.cell 4
        have cq0 : w13.cell? ⟨q, 0, none⟩ = some (.int .u8 m) := hq3.cell 0
        have cq1 : w13.cell? ⟨q, 1, none⟩ = some (.int .u8 0) := hq3.cell 1
        have cq2 : w13.cell? ⟨q, 2, none⟩ = some (.int .u16 hp) := hq3.cell 2
        have cq3 : w13.cell? ⟨q, 3, none⟩ = some (.bool up) := hq3.cell 3
        have cQ5 : w13.cell? ⟨Q, 5, none⟩ = some (.int .i32 (g 0)) := hQ3.cell 5
        have cQ6 : w13.cell? ⟨Q, 6, none⟩ = some (.int .i32 (g 1)) := hQ3.cell 6
        have cQ7 : w13.cell? ⟨Q, 7, none⟩ = some (.int .i32 (g 2)) := hQ3.cell 7
        have cQ8 : w13.cell? ⟨Q, 8, none⟩ = some (.int .i32 (g 3)) := hQ3.cell 8
        have cQ9 : w13.cell? ⟨Q, 9, none⟩ = some (.int .i32 (g 4)) := hQ3.cell 9
        have cQ10 : w13.cell? ⟨Q, 10, none⟩ = some (.int .i32 (wt 0)) := hQ3.cell 10
        have cQ11 : w13.cell? ⟨Q, 11, none⟩ = some (.int .i32 (wt 1)) := hQ3.cell 11
        have cQ12 : w13.cell? ⟨Q, 12, none⟩ = some (.int .i32 (wt 2)) := hQ3.cell 12
        have cQ13 : w13.cell? ⟨Q, 13, none⟩ = some (.int .i32 (wt 3)) := hQ3.cell 13
        have cQ14 : w13.cell? ⟨Q, 14, none⟩ = some (.int .i32 (wt 4)) := hQ3.cell 14
        have cL14 : w13.cell? ⟨L, 14, none⟩ = some (.pointer pv) := hL3.cell 14
        have cP0 : w13.cell? ⟨P, 0, none⟩ = some (.pointer (some ⟨Q, 0, none⟩)) := hP3.cell 0
        have cP3 : w13.cell? ⟨P, 3, none⟩ = some (.pointer (some ⟨L, 0, none⟩)) := hP3.cell 3
        have cP4 : w13.cell? ⟨P, 4, none⟩ = some (.int .i32 (gr 0)) := hP3.cell 4
        have cP5 : w13.cell? ⟨P, 5, none⟩ = some (.int .i32 (gr 1)) := hP3.cell 5
        have cP6 : w13.cell? ⟨P, 6, none⟩ = some (.int .i32 (gr 2)) := hP3.cell 6
        have cP7 : w13.cell? ⟨P, 7, none⟩ = some (.int .i32 (gr 3)) := hP3.cell 7
        have cP8 : w13.cell? ⟨P, 8, none⟩ = some (.int .i32 (gr 4)) := hP3.cell 8
        have cB0 : w13.cell? ⟨B, 0, none⟩ = some (.int .u8 m) := hB3.cell 0
        have cB1 : w13.cell? ⟨B, 1, none⟩ = some (.int .u8 0) := hB3.cell 1
        have cB2 : w13.cell? ⟨B, 2, none⟩ = some (.int .u16 hp) := hB3.cell 2
        have cB3 : w13.cell? ⟨B, 3, none⟩ = some (.bool up) := hB3.cell 3
        have cB4 : w13.cell? ⟨B, 4, none⟩ = some (.bool true) := hB3.cell 4
        have cB5 : w13.cell? ⟨B, 5, none⟩ = some (.bool false) := hB3.cell 5
        have cB6 : w13.cell? ⟨B, 6, none⟩ = some (.pointer none) := hB3.cell 6
        have cB7 : w13.cell? ⟨B, 7, none⟩ = some (.pointer none) := hB3.cell 7
        have cB8 : w13.cell? ⟨B, 8, none⟩ = some (.bool false) := hB3.cell 8
        have cB9 : w13.cell? ⟨B, 9, none⟩ = some (.pointer none) := hB3.cell 9
        have cB10 : w13.cell? ⟨B, 10, none⟩ = some (.bool false) := hB3.cell 10
        have ltB := hB3.lt
        clear hG3 hV3 hR3 hq3 hQ3 hL3 hP3 hB3
        go_upto_region 17 with fail
        go_quiet (fail)
        go_upto_region 19 with fail
        go_quiet (fail)
        go_wp2
        go_ret
        exact ⟨rfl, below_drewN b13 _⟩
    · cases y
      · obtain rfl : x = true := by rw [← ex.out]; rfl
        obtain rfl : z = true := by rw [← ez.out]; rfl
        obtain rfl : pv = rd := by rw [← er.out]; rfl
        clear ex ez er
        have cg0 : w11.cell? ⟨w.heap.size, 0, none⟩ = some (.int .i32 (g 0)) := hG.cell 0
        have cg1 : w11.cell? ⟨w.heap.size, 1, none⟩ = some (.int .i32 (g 1)) := hG.cell 1
        have cg2 : w11.cell? ⟨w.heap.size, 2, none⟩ = some (.int .i32 (g 2)) := hG.cell 2
        have cg3 : w11.cell? ⟨w.heap.size, 3, none⟩ = some (.int .i32 (g 3)) := hG.cell 3
        have cg4 : w11.cell? ⟨w.heap.size, 4, none⟩ = some (.int .i32 (g 4)) := hG.cell 4
        go_upto_region 13 with (first | (go_at_call 5; have b12o := b12; refine (zw _).mono ?_; rintro e w13 ⟨rfl, b12'⟩) | (go_at_call 5; refine (zg _).mono ?_; rintro e w12 ⟨rfl, b12⟩; have hV12 := hV.below b12; have cv0 : w12.cell? ⟨V, 0, none⟩ = some (.int .i32 (wt 0)) := hV12.cell 0; have cv1 : w12.cell? ⟨V, 1, none⟩ = some (.int .i32 (wt 1)) := hV12.cell 1; have cv2 : w12.cell? ⟨V, 2, none⟩ = some (.int .i32 (wt 2)) := hV12.cell 2; have cv3 : w12.cell? ⟨V, 3, none⟩ = some (.int .i32 (wt 3)) := hV12.cell 3; have cv4 : w12.cell? ⟨V, 4, none⟩ = some (.int .i32 (wt 4)) := hV12.cell 4))
        have hG3 := (hG.below b12).below b12'
        have hV3 := (hV.below b12).below b12'
        have hR3 := (hR.below b12).below b12'
        have hq3 := (hq.below b12).below b12'
        have hQ3 := (hQ.below b12).below b12'
        have hL3 := (hL.below b12).below b12'
        have hP3 := (hP.below b12).below b12'
        have hB3 := (hB.below b12).below b12'
        have b13 : Below w.heap.size w w13 := by
          have h1 := below_more b11 b12 b11.size
          exact below_more h1 b12' h1.size
        clear b11 b12 b12' hV12 hG hV hR hq hQ hL hP hB cg0 cv0 cg1 cv1 cg2 cv2 cg3 cv3 cg4 cv4
        have cg0 : w13.cell? ⟨w.heap.size, 0, none⟩ = some (.int .i32 (g 0)) := hG3.cell 0
        have cg1 : w13.cell? ⟨w.heap.size, 1, none⟩ = some (.int .i32 (g 1)) := hG3.cell 1
        have cg2 : w13.cell? ⟨w.heap.size, 2, none⟩ = some (.int .i32 (g 2)) := hG3.cell 2
        have cg3 : w13.cell? ⟨w.heap.size, 3, none⟩ = some (.int .i32 (g 3)) := hG3.cell 3
        have cg4 : w13.cell? ⟨w.heap.size, 4, none⟩ = some (.int .i32 (g 4)) := hG3.cell 4
        have cv0 : w13.cell? ⟨V, 0, none⟩ = some (.int .i32 (wt 0)) := hV3.cell 0
        have cv1 : w13.cell? ⟨V, 1, none⟩ = some (.int .i32 (wt 1)) := hV3.cell 1
        have cv2 : w13.cell? ⟨V, 2, none⟩ = some (.int .i32 (wt 2)) := hV3.cell 2
        have cv3 : w13.cell? ⟨V, 3, none⟩ = some (.int .i32 (wt 3)) := hV3.cell 3
        have cv4 : w13.cell? ⟨V, 4, none⟩ = some (.int .i32 (wt 4)) := hV3.cell 4
        have cr0 : w13.cell? ⟨R, 0, none⟩ = some (.int .i32 (gr 0)) := hR3.cell 0
        have cr1 : w13.cell? ⟨R, 1, none⟩ = some (.int .i32 (gr 1)) := hR3.cell 1
        have cr2 : w13.cell? ⟨R, 2, none⟩ = some (.int .i32 (gr 2)) := hR3.cell 2
        have cr3 : w13.cell? ⟨R, 3, none⟩ = some (.int .i32 (gr 3)) := hR3.cell 3
        have cr4 : w13.cell? ⟨R, 4, none⟩ = some (.int .i32 (gr 4)) := hR3.cell 4
        have cq0 : w13.cell? ⟨q, 0, none⟩ = some (.int .u8 m) := hq3.cell 0
        have cq1 : w13.cell? ⟨q, 1, none⟩ = some (.int .u8 0) := hq3.cell 1
        have cq2 : w13.cell? ⟨q, 2, none⟩ = some (.int .u16 hp) := hq3.cell 2
        have cq3 : w13.cell? ⟨q, 3, none⟩ = some (.bool up) := hq3.cell 3
        have cQ5 : w13.cell? ⟨Q, 5, none⟩ = some (.int .i32 (g 0)) := hQ3.cell 5
        have cQ6 : w13.cell? ⟨Q, 6, none⟩ = some (.int .i32 (g 1)) := hQ3.cell 6
        have cQ7 : w13.cell? ⟨Q, 7, none⟩ = some (.int .i32 (g 2)) := hQ3.cell 7
        have cQ8 : w13.cell? ⟨Q, 8, none⟩ = some (.int .i32 (g 3)) := hQ3.cell 8
        have cQ9 : w13.cell? ⟨Q, 9, none⟩ = some (.int .i32 (g 4)) := hQ3.cell 9
        have cQ10 : w13.cell? ⟨Q, 10, none⟩ = some (.int .i32 (wt 0)) := hQ3.cell 10
        have cQ11 : w13.cell? ⟨Q, 11, none⟩ = some (.int .i32 (wt 1)) := hQ3.cell 11
        have cQ12 : w13.cell? ⟨Q, 12, none⟩ = some (.int .i32 (wt 2)) := hQ3.cell 12
        have cQ13 : w13.cell? ⟨Q, 13, none⟩ = some (.int .i32 (wt 3)) := hQ3.cell 13
        have cQ14 : w13.cell? ⟨Q, 14, none⟩ = some (.int .i32 (wt 4)) := hQ3.cell 14
        have cL14 : w13.cell? ⟨L, 14, none⟩ = some (.pointer pv) := hL3.cell 14
        have cP0 : w13.cell? ⟨P, 0, none⟩ = some (.pointer (some ⟨Q, 0, none⟩)) := hP3.cell 0
        have cP3 : w13.cell? ⟨P, 3, none⟩ = some (.pointer (some ⟨L, 0, none⟩)) := hP3.cell 3
        have cP4 : w13.cell? ⟨P, 4, none⟩ = some (.int .i32 (gr 0)) := hP3.cell 4
        have cP5 : w13.cell? ⟨P, 5, none⟩ = some (.int .i32 (gr 1)) := hP3.cell 5
        have cP6 : w13.cell? ⟨P, 6, none⟩ = some (.int .i32 (gr 2)) := hP3.cell 6
        have cP7 : w13.cell? ⟨P, 7, none⟩ = some (.int .i32 (gr 3)) := hP3.cell 7
        have cP8 : w13.cell? ⟨P, 8, none⟩ = some (.int .i32 (gr 4)) := hP3.cell 8
        have cB0 : w13.cell? ⟨B, 0, none⟩ = some (.int .u8 m) := hB3.cell 0
        have cB1 : w13.cell? ⟨B, 1, none⟩ = some (.int .u8 0) := hB3.cell 1
        have cB2 : w13.cell? ⟨B, 2, none⟩ = some (.int .u16 hp) := hB3.cell 2
        have cB3 : w13.cell? ⟨B, 3, none⟩ = some (.bool up) := hB3.cell 3
        have cB4 : w13.cell? ⟨B, 4, none⟩ = some (.bool false) := hB3.cell 4
        have cB5 : w13.cell? ⟨B, 5, none⟩ = some (.bool true) := hB3.cell 5
        have cB6 : w13.cell? ⟨B, 6, none⟩ = some (.pointer pv) := hB3.cell 6
        have cB7 : w13.cell? ⟨B, 7, none⟩ = some (.pointer none) := hB3.cell 7
        have cB8 : w13.cell? ⟨B, 8, none⟩ = some (.bool false) := hB3.cell 8
        have cB9 : w13.cell? ⟨B, 9, none⟩ = some (.pointer none) := hB3.cell 9
        have cB10 : w13.cell? ⟨B, 10, none⟩ = some (.bool false) := hB3.cell 10
        have ltB := hB3.lt
        clear hG3 hV3 hR3 hq3 hQ3 hL3 hP3 hB3
        go_upto_region 17 with fail
        go_quiet (fail)
        go_upto_region 19 with fail
        go_quiet (fail)
        go_wp2_with (go_at_call 5; refine (zr _).mono ?_; rintro e w14 ⟨rfl, b14⟩; have k5 : w14.cell? ⟨B, 5, none⟩ = some (.bool true) := cell_keep (w := World.drewN _ _) cB5 (b14.block B ltB); have k6 : w14.cell? ⟨B, 6, none⟩ = some (.pointer pv) := cell_keep (w := World.drewN _ _) cB6 (b14.block B ltB))
        go_ret
        exact ⟨rfl, below_more (below_drewN b13 _) b14 b13.size⟩
      · obtain rfl : x = true := by rw [← ex.out]; rfl
        obtain rfl : z = false := by rw [← ez.out]; rfl
        obtain rfl : none = rd := by rw [← er.out]; rfl
        clear ex ez er
        have cg0 : w11.cell? ⟨w.heap.size, 0, none⟩ = some (.int .i32 (g 0)) := hG.cell 0
        have cg1 : w11.cell? ⟨w.heap.size, 1, none⟩ = some (.int .i32 (g 1)) := hG.cell 1
        have cg2 : w11.cell? ⟨w.heap.size, 2, none⟩ = some (.int .i32 (g 2)) := hG.cell 2
        have cg3 : w11.cell? ⟨w.heap.size, 3, none⟩ = some (.int .i32 (g 3)) := hG.cell 3
        have cg4 : w11.cell? ⟨w.heap.size, 4, none⟩ = some (.int .i32 (g 4)) := hG.cell 4
        go_upto_region 13 with (first | (go_at_call 5; have b12o := b12; refine (zw _).mono ?_; rintro e w13 ⟨rfl, b12'⟩) | (go_at_call 5; refine (zg _).mono ?_; rintro e w12 ⟨rfl, b12⟩; have hV12 := hV.below b12; have cv0 : w12.cell? ⟨V, 0, none⟩ = some (.int .i32 (wt 0)) := hV12.cell 0; have cv1 : w12.cell? ⟨V, 1, none⟩ = some (.int .i32 (wt 1)) := hV12.cell 1; have cv2 : w12.cell? ⟨V, 2, none⟩ = some (.int .i32 (wt 2)) := hV12.cell 2; have cv3 : w12.cell? ⟨V, 3, none⟩ = some (.int .i32 (wt 3)) := hV12.cell 3; have cv4 : w12.cell? ⟨V, 4, none⟩ = some (.int .i32 (wt 4)) := hV12.cell 4))
        have hG3 := (hG.below b12).below b12'
        have hV3 := (hV.below b12).below b12'
        have hR3 := (hR.below b12).below b12'
        have hq3 := (hq.below b12).below b12'
        have hQ3 := (hQ.below b12).below b12'
        have hL3 := (hL.below b12).below b12'
        have hP3 := (hP.below b12).below b12'
        have hB3 := (hB.below b12).below b12'
        have b13 : Below w.heap.size w w13 := by
          have h1 := below_more b11 b12 b11.size
          exact below_more h1 b12' h1.size
        clear b11 b12 b12' hV12 hG hV hR hq hQ hL hP hB cg0 cv0 cg1 cv1 cg2 cv2 cg3 cv3 cg4 cv4
        have cg0 : w13.cell? ⟨w.heap.size, 0, none⟩ = some (.int .i32 (g 0)) := hG3.cell 0
        have cg1 : w13.cell? ⟨w.heap.size, 1, none⟩ = some (.int .i32 (g 1)) := hG3.cell 1
        have cg2 : w13.cell? ⟨w.heap.size, 2, none⟩ = some (.int .i32 (g 2)) := hG3.cell 2
        have cg3 : w13.cell? ⟨w.heap.size, 3, none⟩ = some (.int .i32 (g 3)) := hG3.cell 3
        have cg4 : w13.cell? ⟨w.heap.size, 4, none⟩ = some (.int .i32 (g 4)) := hG3.cell 4
        have cv0 : w13.cell? ⟨V, 0, none⟩ = some (.int .i32 (wt 0)) := hV3.cell 0
        have cv1 : w13.cell? ⟨V, 1, none⟩ = some (.int .i32 (wt 1)) := hV3.cell 1
        have cv2 : w13.cell? ⟨V, 2, none⟩ = some (.int .i32 (wt 2)) := hV3.cell 2
        have cv3 : w13.cell? ⟨V, 3, none⟩ = some (.int .i32 (wt 3)) := hV3.cell 3
        have cv4 : w13.cell? ⟨V, 4, none⟩ = some (.int .i32 (wt 4)) := hV3.cell 4
        have cr0 : w13.cell? ⟨R, 0, none⟩ = some (.int .i32 (gr 0)) := hR3.cell 0
        have cr1 : w13.cell? ⟨R, 1, none⟩ = some (.int .i32 (gr 1)) := hR3.cell 1
        have cr2 : w13.cell? ⟨R, 2, none⟩ = some (.int .i32 (gr 2)) := hR3.cell 2
        have cr3 : w13.cell? ⟨R, 3, none⟩ = some (.int .i32 (gr 3)) := hR3.cell 3
        have cr4 : w13.cell? ⟨R, 4, none⟩ = some (.int .i32 (gr 4)) := hR3.cell 4
        have cq0 : w13.cell? ⟨q, 0, none⟩ = some (.int .u8 m) := hq3.cell 0
        have cq1 : w13.cell? ⟨q, 1, none⟩ = some (.int .u8 0) := hq3.cell 1
        have cq2 : w13.cell? ⟨q, 2, none⟩ = some (.int .u16 hp) := hq3.cell 2
        have cq3 : w13.cell? ⟨q, 3, none⟩ = some (.bool up) := hq3.cell 3
        have cQ5 : w13.cell? ⟨Q, 5, none⟩ = some (.int .i32 (g 0)) := hQ3.cell 5
        have cQ6 : w13.cell? ⟨Q, 6, none⟩ = some (.int .i32 (g 1)) := hQ3.cell 6
        have cQ7 : w13.cell? ⟨Q, 7, none⟩ = some (.int .i32 (g 2)) := hQ3.cell 7
        have cQ8 : w13.cell? ⟨Q, 8, none⟩ = some (.int .i32 (g 3)) := hQ3.cell 8
        have cQ9 : w13.cell? ⟨Q, 9, none⟩ = some (.int .i32 (g 4)) := hQ3.cell 9
        have cQ10 : w13.cell? ⟨Q, 10, none⟩ = some (.int .i32 (wt 0)) := hQ3.cell 10
        have cQ11 : w13.cell? ⟨Q, 11, none⟩ = some (.int .i32 (wt 1)) := hQ3.cell 11
        have cQ12 : w13.cell? ⟨Q, 12, none⟩ = some (.int .i32 (wt 2)) := hQ3.cell 12
        have cQ13 : w13.cell? ⟨Q, 13, none⟩ = some (.int .i32 (wt 3)) := hQ3.cell 13
        have cQ14 : w13.cell? ⟨Q, 14, none⟩ = some (.int .i32 (wt 4)) := hQ3.cell 14
        have cL14 : w13.cell? ⟨L, 14, none⟩ = some (.pointer pv) := hL3.cell 14
        have cP0 : w13.cell? ⟨P, 0, none⟩ = some (.pointer (some ⟨Q, 0, none⟩)) := hP3.cell 0
        have cP3 : w13.cell? ⟨P, 3, none⟩ = some (.pointer (some ⟨L, 0, none⟩)) := hP3.cell 3
        have cP4 : w13.cell? ⟨P, 4, none⟩ = some (.int .i32 (gr 0)) := hP3.cell 4
        have cP5 : w13.cell? ⟨P, 5, none⟩ = some (.int .i32 (gr 1)) := hP3.cell 5
        have cP6 : w13.cell? ⟨P, 6, none⟩ = some (.int .i32 (gr 2)) := hP3.cell 6
        have cP7 : w13.cell? ⟨P, 7, none⟩ = some (.int .i32 (gr 3)) := hP3.cell 7
        have cP8 : w13.cell? ⟨P, 8, none⟩ = some (.int .i32 (gr 4)) := hP3.cell 8
        have cB0 : w13.cell? ⟨B, 0, none⟩ = some (.int .u8 m) := hB3.cell 0
        have cB1 : w13.cell? ⟨B, 1, none⟩ = some (.int .u8 0) := hB3.cell 1
        have cB2 : w13.cell? ⟨B, 2, none⟩ = some (.int .u16 hp) := hB3.cell 2
        have cB3 : w13.cell? ⟨B, 3, none⟩ = some (.bool up) := hB3.cell 3
        have cB4 : w13.cell? ⟨B, 4, none⟩ = some (.bool false) := hB3.cell 4
        have cB5 : w13.cell? ⟨B, 5, none⟩ = some (.bool false) := hB3.cell 5
        have cB6 : w13.cell? ⟨B, 6, none⟩ = some (.pointer none) := hB3.cell 6
        have cB7 : w13.cell? ⟨B, 7, none⟩ = some (.pointer none) := hB3.cell 7
        have cB8 : w13.cell? ⟨B, 8, none⟩ = some (.bool false) := hB3.cell 8
        have cB9 : w13.cell? ⟨B, 9, none⟩ = some (.pointer none) := hB3.cell 9
        have cB10 : w13.cell? ⟨B, 10, none⟩ = some (.bool false) := hB3.cell 10
        have ltB := hB3.lt
        clear hG3 hV3 hR3 hq3 hQ3 hL3 hP3 hB3
        go_upto_region 17 with fail
        go_quiet (fail)
        go_upto_region 19 with fail
        go_quiet (fail)
        go_wp2_with (go_at_call 5; refine (zr _).mono ?_; rintro e w14 ⟨rfl, b14⟩; have k5 : w14.cell? ⟨B, 5, none⟩ = some (.bool false) := cell_keep (w := World.drewN _ _) cB5 (b14.block B ltB); have k6 : w14.cell? ⟨B, 6, none⟩ = some (.pointer none) := cell_keep (w := World.drewN _ _) cB6 (b14.block B ltB))
        go_ret
        exact ⟨rfl, below_more (below_drewN b13 _) b14 b13.size⟩
  · cases y
    · obtain rfl : x = true := by rw [← ex.out]; rfl
      obtain rfl : z = true := by rw [← ez.out]; rfl
      obtain rfl : pv = rd := by rw [← er.out]; rfl
      clear ex ez er
      have cg0 : w11.cell? ⟨w.heap.size, 0, none⟩ = some (.int .i32 (g 0)) := hG.cell 0
      have cg1 : w11.cell? ⟨w.heap.size, 1, none⟩ = some (.int .i32 (g 1)) := hG.cell 1
      have cg2 : w11.cell? ⟨w.heap.size, 2, none⟩ = some (.int .i32 (g 2)) := hG.cell 2
      have cg3 : w11.cell? ⟨w.heap.size, 3, none⟩ = some (.int .i32 (g 3)) := hG.cell 3
      have cg4 : w11.cell? ⟨w.heap.size, 4, none⟩ = some (.int .i32 (g 4)) := hG.cell 4
      go_upto_region 13 with (go_at_call 5; refine (zg _).mono ?_; rintro e w13 ⟨rfl, b12⟩)
      have hG3 := hG.below b12
      have hV3 := hV.below b12
      have hR3 := hR.below b12
      have hq3 := hq.below b12
      have hQ3 := hQ.below b12
      have hL3 := hL.below b12
      have hP3 := hP.below b12
      have hB3 := hB.below b12
      have b13 : Below w.heap.size w w13 := below_more b11 b12 b11.size
      clear b11 b12 hG hV hR hq hQ hL hP hB cg0 cg1 cg2 cg3 cg4
      have cg0 : w13.cell? ⟨w.heap.size, 0, none⟩ = some (.int .i32 (g 0)) := hG3.cell 0
      have cg1 : w13.cell? ⟨w.heap.size, 1, none⟩ = some (.int .i32 (g 1)) := hG3.cell 1
      have cg2 : w13.cell? ⟨w.heap.size, 2, none⟩ = some (.int .i32 (g 2)) := hG3.cell 2
      have cg3 : w13.cell? ⟨w.heap.size, 3, none⟩ = some (.int .i32 (g 3)) := hG3.cell 3
      have cg4 : w13.cell? ⟨w.heap.size, 4, none⟩ = some (.int .i32 (g 4)) := hG3.cell 4
      have cv0 : w13.cell? ⟨V, 0, none⟩ = some (.int .i32 (wt 0)) := hV3.cell 0
      have cv1 : w13.cell? ⟨V, 1, none⟩ = some (.int .i32 (wt 1)) := hV3.cell 1
      have cv2 : w13.cell? ⟨V, 2, none⟩ = some (.int .i32 (wt 2)) := hV3.cell 2
      have cv3 : w13.cell? ⟨V, 3, none⟩ = some (.int .i32 (wt 3)) := hV3.cell 3
      have cv4 : w13.cell? ⟨V, 4, none⟩ = some (.int .i32 (wt 4)) := hV3.cell 4
      have cr0 : w13.cell? ⟨R, 0, none⟩ = some (.int .i32 (gr 0)) := hR3.cell 0
      have cr1 : w13.cell? ⟨R, 1, none⟩ = some (.int .i32 (gr 1)) := hR3.cell 1
      have cr2 : w13.cell? ⟨R, 2, none⟩ = some (.int .i32 (gr 2)) := hR3.cell 2
      have cr3 : w13.cell? ⟨R, 3, none⟩ = some (.int .i32 (gr 3)) := hR3.cell 3
      have cr4 : w13.cell? ⟨R, 4, none⟩ = some (.int .i32 (gr 4)) := hR3.cell 4
      have cq0 : w13.cell? ⟨q, 0, none⟩ = some (.int .u8 m) := hq3.cell 0
      have cq1 : w13.cell? ⟨q, 1, none⟩ = some (.int .u8 0) := hq3.cell 1
      have cq2 : w13.cell? ⟨q, 2, none⟩ = some (.int .u16 hp) := hq3.cell 2
      have cq3 : w13.cell? ⟨q, 3, none⟩ = some (.bool up) := hq3.cell 3
      have cQ5 : w13.cell? ⟨Q, 5, none⟩ = some (.int .i32 (g 0)) := hQ3.cell 5
      have cQ6 : w13.cell? ⟨Q, 6, none⟩ = some (.int .i32 (g 1)) := hQ3.cell 6
      have cQ7 : w13.cell? ⟨Q, 7, none⟩ = some (.int .i32 (g 2)) := hQ3.cell 7
      have cQ8 : w13.cell? ⟨Q, 8, none⟩ = some (.int .i32 (g 3)) := hQ3.cell 8
      have cQ9 : w13.cell? ⟨Q, 9, none⟩ = some (.int .i32 (g 4)) := hQ3.cell 9
      have cQ10 : w13.cell? ⟨Q, 10, none⟩ = some (.int .i32 (wt 0)) := hQ3.cell 10
      have cQ11 : w13.cell? ⟨Q, 11, none⟩ = some (.int .i32 (wt 1)) := hQ3.cell 11
      have cQ12 : w13.cell? ⟨Q, 12, none⟩ = some (.int .i32 (wt 2)) := hQ3.cell 12
      have cQ13 : w13.cell? ⟨Q, 13, none⟩ = some (.int .i32 (wt 3)) := hQ3.cell 13
      have cQ14 : w13.cell? ⟨Q, 14, none⟩ = some (.int .i32 (wt 4)) := hQ3.cell 14
      have cL14 : w13.cell? ⟨L, 14, none⟩ = some (.pointer pv) := hL3.cell 14
      have cP0 : w13.cell? ⟨P, 0, none⟩ = some (.pointer (some ⟨Q, 0, none⟩)) := hP3.cell 0
      have cP3 : w13.cell? ⟨P, 3, none⟩ = some (.pointer (some ⟨L, 0, none⟩)) := hP3.cell 3
      have cP4 : w13.cell? ⟨P, 4, none⟩ = some (.int .i32 (gr 0)) := hP3.cell 4
      have cP5 : w13.cell? ⟨P, 5, none⟩ = some (.int .i32 (gr 1)) := hP3.cell 5
      have cP6 : w13.cell? ⟨P, 6, none⟩ = some (.int .i32 (gr 2)) := hP3.cell 6
      have cP7 : w13.cell? ⟨P, 7, none⟩ = some (.int .i32 (gr 3)) := hP3.cell 7
      have cP8 : w13.cell? ⟨P, 8, none⟩ = some (.int .i32 (gr 4)) := hP3.cell 8
      have cB0 : w13.cell? ⟨B, 0, none⟩ = some (.int .u8 m) := hB3.cell 0
      have cB1 : w13.cell? ⟨B, 1, none⟩ = some (.int .u8 0) := hB3.cell 1
      have cB2 : w13.cell? ⟨B, 2, none⟩ = some (.int .u16 hp) := hB3.cell 2
      have cB3 : w13.cell? ⟨B, 3, none⟩ = some (.bool up) := hB3.cell 3
      have cB4 : w13.cell? ⟨B, 4, none⟩ = some (.bool false) := hB3.cell 4
      have cB5 : w13.cell? ⟨B, 5, none⟩ = some (.bool true) := hB3.cell 5
      have cB6 : w13.cell? ⟨B, 6, none⟩ = some (.pointer pv) := hB3.cell 6
      have cB7 : w13.cell? ⟨B, 7, none⟩ = some (.pointer none) := hB3.cell 7
      have cB8 : w13.cell? ⟨B, 8, none⟩ = some (.bool false) := hB3.cell 8
      have cB9 : w13.cell? ⟨B, 9, none⟩ = some (.pointer none) := hB3.cell 9
      have cB10 : w13.cell? ⟨B, 10, none⟩ = some (.bool false) := hB3.cell 10
      have ltB := hB3.lt
      clear hG3 hV3 hR3 hq3 hQ3 hL3 hP3 hB3
      go_upto_region 17 with fail
      go_quiet (fail)
      go_upto_region 19 with fail
      go_quiet (fail)
      go_wp2_with (go_at_call 5; refine (zr _).mono ?_; rintro e w14 ⟨rfl, b14⟩; have k5 : w14.cell? ⟨B, 5, none⟩ = some (.bool true) := cell_keep (w := World.drewN _ _) cB5 (b14.block B ltB); have k6 : w14.cell? ⟨B, 6, none⟩ = some (.pointer pv) := cell_keep (w := World.drewN _ _) cB6 (b14.block B ltB))
      go_ret
      exact ⟨rfl, below_more (below_drewN b13 _) b14 b13.size⟩
    · obtain rfl : x = true := by rw [← ex.out]; rfl
      obtain rfl : z = false := by rw [← ez.out]; rfl
      obtain rfl : none = rd := by rw [← er.out]; rfl
      clear ex ez er
      have cg0 : w11.cell? ⟨w.heap.size, 0, none⟩ = some (.int .i32 (g 0)) := hG.cell 0
      have cg1 : w11.cell? ⟨w.heap.size, 1, none⟩ = some (.int .i32 (g 1)) := hG.cell 1
      have cg2 : w11.cell? ⟨w.heap.size, 2, none⟩ = some (.int .i32 (g 2)) := hG.cell 2
      have cg3 : w11.cell? ⟨w.heap.size, 3, none⟩ = some (.int .i32 (g 3)) := hG.cell 3
      have cg4 : w11.cell? ⟨w.heap.size, 4, none⟩ = some (.int .i32 (g 4)) := hG.cell 4
      go_upto_region 13 with (go_at_call 5; refine (zg _).mono ?_; rintro e w13 ⟨rfl, b12⟩)
      have hG3 := hG.below b12
      have hV3 := hV.below b12
      have hR3 := hR.below b12
      have hq3 := hq.below b12
      have hQ3 := hQ.below b12
      have hL3 := hL.below b12
      have hP3 := hP.below b12
      have hB3 := hB.below b12
      have b13 : Below w.heap.size w w13 := below_more b11 b12 b11.size
      clear b11 b12 hG hV hR hq hQ hL hP hB cg0 cg1 cg2 cg3 cg4
      have cg0 : w13.cell? ⟨w.heap.size, 0, none⟩ = some (.int .i32 (g 0)) := hG3.cell 0
      have cg1 : w13.cell? ⟨w.heap.size, 1, none⟩ = some (.int .i32 (g 1)) := hG3.cell 1
      have cg2 : w13.cell? ⟨w.heap.size, 2, none⟩ = some (.int .i32 (g 2)) := hG3.cell 2
      have cg3 : w13.cell? ⟨w.heap.size, 3, none⟩ = some (.int .i32 (g 3)) := hG3.cell 3
      have cg4 : w13.cell? ⟨w.heap.size, 4, none⟩ = some (.int .i32 (g 4)) := hG3.cell 4
      have cv0 : w13.cell? ⟨V, 0, none⟩ = some (.int .i32 (wt 0)) := hV3.cell 0
      have cv1 : w13.cell? ⟨V, 1, none⟩ = some (.int .i32 (wt 1)) := hV3.cell 1
      have cv2 : w13.cell? ⟨V, 2, none⟩ = some (.int .i32 (wt 2)) := hV3.cell 2
      have cv3 : w13.cell? ⟨V, 3, none⟩ = some (.int .i32 (wt 3)) := hV3.cell 3
      have cv4 : w13.cell? ⟨V, 4, none⟩ = some (.int .i32 (wt 4)) := hV3.cell 4
      have cr0 : w13.cell? ⟨R, 0, none⟩ = some (.int .i32 (gr 0)) := hR3.cell 0
      have cr1 : w13.cell? ⟨R, 1, none⟩ = some (.int .i32 (gr 1)) := hR3.cell 1
      have cr2 : w13.cell? ⟨R, 2, none⟩ = some (.int .i32 (gr 2)) := hR3.cell 2
      have cr3 : w13.cell? ⟨R, 3, none⟩ = some (.int .i32 (gr 3)) := hR3.cell 3
      have cr4 : w13.cell? ⟨R, 4, none⟩ = some (.int .i32 (gr 4)) := hR3.cell 4
      have cq0 : w13.cell? ⟨q, 0, none⟩ = some (.int .u8 m) := hq3.cell 0
      have cq1 : w13.cell? ⟨q, 1, none⟩ = some (.int .u8 0) := hq3.cell 1
      have cq2 : w13.cell? ⟨q, 2, none⟩ = some (.int .u16 hp) := hq3.cell 2
      have cq3 : w13.cell? ⟨q, 3, none⟩ = some (.bool up) := hq3.cell 3
      have cQ5 : w13.cell? ⟨Q, 5, none⟩ = some (.int .i32 (g 0)) := hQ3.cell 5
      have cQ6 : w13.cell? ⟨Q, 6, none⟩ = some (.int .i32 (g 1)) := hQ3.cell 6
      have cQ7 : w13.cell? ⟨Q, 7, none⟩ = some (.int .i32 (g 2)) := hQ3.cell 7
      have cQ8 : w13.cell? ⟨Q, 8, none⟩ = some (.int .i32 (g 3)) := hQ3.cell 8
      have cQ9 : w13.cell? ⟨Q, 9, none⟩ = some (.int .i32 (g 4)) := hQ3.cell 9
      have cQ10 : w13.cell? ⟨Q, 10, none⟩ = some (.int .i32 (wt 0)) := hQ3.cell 10
      have cQ11 : w13.cell? ⟨Q, 11, none⟩ = some (.int .i32 (wt 1)) := hQ3.cell 11
      have cQ12 : w13.cell? ⟨Q, 12, none⟩ = some (.int .i32 (wt 2)) := hQ3.cell 12
      have cQ13 : w13.cell? ⟨Q, 13, none⟩ = some (.int .i32 (wt 3)) := hQ3.cell 13
      have cQ14 : w13.cell? ⟨Q, 14, none⟩ = some (.int .i32 (wt 4)) := hQ3.cell 14
      have cL14 : w13.cell? ⟨L, 14, none⟩ = some (.pointer pv) := hL3.cell 14
      have cP0 : w13.cell? ⟨P, 0, none⟩ = some (.pointer (some ⟨Q, 0, none⟩)) := hP3.cell 0
      have cP3 : w13.cell? ⟨P, 3, none⟩ = some (.pointer (some ⟨L, 0, none⟩)) := hP3.cell 3
      have cP4 : w13.cell? ⟨P, 4, none⟩ = some (.int .i32 (gr 0)) := hP3.cell 4
      have cP5 : w13.cell? ⟨P, 5, none⟩ = some (.int .i32 (gr 1)) := hP3.cell 5
      have cP6 : w13.cell? ⟨P, 6, none⟩ = some (.int .i32 (gr 2)) := hP3.cell 6
      have cP7 : w13.cell? ⟨P, 7, none⟩ = some (.int .i32 (gr 3)) := hP3.cell 7
      have cP8 : w13.cell? ⟨P, 8, none⟩ = some (.int .i32 (gr 4)) := hP3.cell 8
      have cB0 : w13.cell? ⟨B, 0, none⟩ = some (.int .u8 m) := hB3.cell 0
      have cB1 : w13.cell? ⟨B, 1, none⟩ = some (.int .u8 0) := hB3.cell 1
      have cB2 : w13.cell? ⟨B, 2, none⟩ = some (.int .u16 hp) := hB3.cell 2
      have cB3 : w13.cell? ⟨B, 3, none⟩ = some (.bool up) := hB3.cell 3
      have cB4 : w13.cell? ⟨B, 4, none⟩ = some (.bool false) := hB3.cell 4
      have cB5 : w13.cell? ⟨B, 5, none⟩ = some (.bool false) := hB3.cell 5
      have cB6 : w13.cell? ⟨B, 6, none⟩ = some (.pointer none) := hB3.cell 6
      have cB7 : w13.cell? ⟨B, 7, none⟩ = some (.pointer none) := hB3.cell 7
      have cB8 : w13.cell? ⟨B, 8, none⟩ = some (.bool false) := hB3.cell 8
      have cB9 : w13.cell? ⟨B, 9, none⟩ = some (.pointer none) := hB3.cell 9
      have cB10 : w13.cell? ⟨B, 10, none⟩ = some (.bool false) := hB3.cell 10
      have ltB := hB3.lt
      clear hG3 hV3 hR3 hq3 hQ3 hL3 hP3 hB3
      go_upto_region 17 with fail
      go_quiet (fail)
      go_upto_region 19 with fail
      go_quiet (fail)
      go_wp2_with (go_at_call 5; refine (zr _).mono ?_; rintro e w14 ⟨rfl, b14⟩; have k5 : w14.cell? ⟨B, 5, none⟩ = some (.bool false) := cell_keep (w := World.drewN _ _) cB5 (b14.block B ltB); have k6 : w14.cell? ⟨B, 6, none⟩ = some (.pointer none) := cell_keep (w := World.drewN _ _) cB6 (b14.block B ltB))
      go_ret
      exact ⟨rfl, below_more (below_drewN b13 _) b14 b13.size⟩

end Go.Proofs.YbulkddtoDoor
