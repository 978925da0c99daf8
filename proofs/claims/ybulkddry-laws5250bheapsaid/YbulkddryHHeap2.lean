import Derived.Test.YbulkddryHHeap1
namespace Go.Proofs.Ybulkddry
open Go.RowKit
set_option linter.unusedVariables false

/-- A row of integers that came in. -/
def Ins (w : World) (k : IntKind) (b off n : Nat) (z : Nat → Int) : Prop := b < w.heap.size ∧ ∀ i, i < n → w.cell? ⟨b, off + i, none⟩ = some (.int k (z i))
theorem Ins.at {w wr : World} {k : IntKind} {b off n : Nat} {z : Nat → Int} (h : Ins w k b off n z) (hb : Below w.heap.size w wr) {i : Nat} (hi : i < n) : wr.cell? ⟨b, off + i, none⟩ = some (.int k (z i)) :=
  (hb.cell (p := ⟨b, off + i, none⟩) h.1).trans (h.2 i hi)

theorem fill_step {wr : World} {b N k : Nat} {za zs : Nat → Int} (H : Holds wr b N (fun i => if i < k then ev0 za zs i else zeroEv)) : Holds (putEv wr b k (ev0 za zs k)).drew b N (fun i => if i < k + 1 then ev0 za zs i else zeroEv) := by
  refine (H.put k (ev0 za zs k)).drew.congr fun i _ => ?_
  by_cases hi : i = k
  · subst hi; rw [upd_same, if_pos (by omega)]
  · rw [upd_other _ _ hi]
    by_cases h2 : i < k
    · rw [if_pos h2, if_pos (by omega)]
    · rw [if_neg h2, if_neg (by omega)]

/-- What stands behind the pop: the queue's row, its header, the event that was popped. -/
structure St (w wr : World) (E m r : Nat) (za zs : Nat → Int) : Prop where
  H : Holds wr w.heap.size (m + 1) (popF m (initF (m + 1) ((m + 1) / 2) (ev0 za zs)))
  hQ : At wr (w.heap.size + 1) #[.slice (some ⟨w.heap.size, 0, none⟩) m (m + 1)] 24
  hE : At wr E #[.int .i64 (za r), .int .u64 (zs r), .bool false, .int .i64 (r : Int), .int .i64 0, .int .i64 (r : Int), .int .i64 0] 28
  below : Below w.heap.size w wr
  lt : w.heap.size + 1 < E
theorem St.drewN {w wr : World} {E m r : Nat} {za zs : Nat → Int} (S : St w wr E m r za zs) (n : Nat) : St w (wr.drewN n) E m r za zs := ⟨S.H, S.hQ, S.hE, below_drewN S.below n, S.lt⟩

theorem St.alloc {w wr : World} {E m r : Nat} {za zs : Nat → Int} (S : St w wr E m r za zs) (o : Obj) : St w (wr.alloc o) E m r za zs := ⟨S.H.alloc o, S.hQ.alloc o, S.hE.alloc o, S.below.alloc S.below.size o, S.lt⟩
theorem St.other {w wr : World} {E m r : Nat} {za zs : Nat → Int} (S : St w wr E m r za zs) {a : Addr} (ha : E < a.block) (v : Value) : St w (wr.setCell a v) E m r za zs :=
  have h := S.lt
  ⟨S.H.other (by omega) v, S.hQ.other (by omega) v, S.hE.other (by omega) v, S.below.setCell (by omega) v, S.lt⟩

/-- Which events have been seen when k of the queue's have been looked at. -/
def seenB (μ : Nat → Nat) (r : Nat) : Nat → Nat → Bool
  | 0, j => decide (j = r)
  | k + 1, j => if j = μ k then true else seenB μ r k j
theorem seenB_false {μ : Nat → Nat} {r : Nat} : ∀ {k u : Nat}, u ≠ r → (∀ i, i < k → μ i ≠ u) → seenB μ r k u = false
  | 0, u, h, _ => by simp [seenB, h]
  | k + 1, u, h, hi => by rw [seenB, if_neg (fun e => hi k (by omega) e.symm)]; exact seenB_false h fun i hi' => hi i (by omega)

set_option maxRecDepth 100000 in
set_option maxHeartbeats 6400000 in
theorem heap_walk (ba oa la ca bs os ls cs m : Nat) (za zs : Nat → Int) (w : World) (hN : m + 1 ≤ 1024) (hA : Ins w .i64 ba oa (m + 1) za) (hS : Ins w .u8 bs os (m + 1) zs) (hz : ∀ i, i < m + 1 → 0 ≤ zs i ∧ zs i ≤ 255)
    (hlen : (la = m + 1 ∧ m + 1 ≤ ls) ∨ (ls = m + 1 ∧ m + 1 < la)) :
    Calls Yba.prog 4 #[.slice (some ⟨ba, oa, none⟩) la ca, .slice (some ⟨bs, os, none⟩) ls cs] w fun e w' => e = .returned (.bool true) ∧ Below w.heap.size w w' := by
  have hmk := make28 (m + 1) hN
  have e1 : ((m + 1 : Nat) : Int) = (m : Int) + 1 := by omega
  rw [e1] at hmk
  have hmb := run_make_row' (P := Yba.prog) 34 4 (.bool false) 1 Yba.underlying34 (by kernel_rfl) rfl .i64 .i64 (m + 1) (by omega) (by omega)
  rw [e1] at hmb
  have d1 : decide (1024 < (m : Int) + 1) = false := by simp; omega
  have d2 : ((m : Int) + 1 == 0) = false := by simp; omega
  obtain ⟨r, hr, rest⟩ := heap_facts za zs m
  have F : Hid _ := rest
  have hz' : Hid _ := hz
  clear rest hz
  rcases hlen with ⟨rfl, hls⟩ | ⟨rfl, hla⟩
  all_goals
    first | have d3 : decide ((ls : Int) < (m : Int) + 1) = false := (by simp; omega) | have d3 : decide ((m : Int) + 1 < (la : Int)) = true := (by simp; omega)
    go_enter Yba.func4, Yba.ntmps4
    go_wp2_with fail
    go_loopw [7] (fun v wr => ∃ k : Nat, v = .int .i64 k ∧ k ≤ m + 1 ∧ Holds wr w.heap.size (m + 1) (fun i => if i < k then ev0 za zs i else zeroEv) ∧ At wr (w.heap.size + 1) #[.slice (some ⟨w.heap.size, 0, none⟩) (m + 1) (m + 1)] 24 ∧ Below w.heap.size w wr) (fun v _ => m + 1 - (intOf v).toNat)
    case atStart =>
      exact ⟨0, rfl, Nat.zero_le _, ((made28 (m + 1) w).alloc _).congr (fun i _ => by simp), At.new' _ _ _ (by simp), ((Below.refl _ _).alloc (by simp) _).alloc (by simp) _⟩
    case round =>
      obtain ⟨k, rfl, hk, Hr, hQr, hB⟩ := hrel
      by_cases hlt : k < m + 1
      · have ca := hA.at hB hlt
        have cs' := hS.at hB hlt
        have zb := hz'.out k hlt
        have q0 := hQr.cell 0
        have b0 := Hr.cell0 (i := k) (by omega); have b1 := Hr.cell1 (i := k) (by omega); have b2 := Hr.cell2 (i := k) (by omega); have b3 := Hr.cell3 (i := k) (by omega); have b4 := Hr.cell4 (i := k) (by omega); have b5 := Hr.cell5 (i := k) (by omega); have b6 := Hr.cell6 (i := k) (by omega)
        have y0 := rowLe.frozen Hr (k * 7); have y1 := rowLe.frozen Hr (k * 7 + 1); have y2 := rowLe.frozen Hr (k * 7 + 2); have y3 := rowLe.frozen Hr (k * 7 + 3); have y4 := rowLe.frozen Hr (k * 7 + 4); have y5 := rowLe.frozen Hr (k * 7 + 5); have y6 := rowLe.frozen Hr (k * 7 + 6)
        go_wp2_with fail
        go_region
        go_wp2_with fail
        exact ⟨⟨k + 1, by go_num, by omega, fill_step Hr, (At.put hQr (by omega) (ev0 za zs k)).drew, (below_put hB (Nat.le_refl _) k (ev0 za zs k)).drew⟩, by simp [intOf]; omega⟩
      · have Hr1 : Holds wr w.heap.size (m + 1) (ev0 za zs) := Hr.congr fun i hi => by rw [if_pos (by omega)]
        have lb := hB.size
        have q0 := hQr.cell 0
        clear Hr
        go_wp2_with fail
        refine (init_any w.heap.size (m + 1) (m + 1) _ _ _ Hr1 (Nat.le_refl _) hN).mono ?_
        rintro e w1 ⟨rfl, H1, bt1⟩
        have hQ1 := hQr.but bt1 (by simp)
        have hB1 := hB.trans (bt1.toBelow hB.size (by simp))
        clear q0 Hr1 bt1 hQr hB
        go_wp2_with fail
        refine (pop_any (w.heap.size + 1) w.heap.size (m + 1) m (m + 1) _ _ H1 hQ1 (Nat.le_refl _) hN (Nat.le_refl _)).mono ?_
        rintro e w2 ⟨rfl, H2, hQ2, bt2⟩
        have hB2 := hB1.trans (bt2.toBelow hB1.size (by simp))
        clear H1 hQ1 bt2 hB1
        rw [F.out.1]
        simp only [ev0]
        go_upto_region 15 with fail
        have hE3 := At.new w2 #[.int .i64 (za r), .int .u64 (zs r), .bool false, .int .i64 (r : Int), .int .i64 0, .int .i64 (r : Int), .int .i64 0] 28
        have H3 := H2.alloc (.cells #[.int .i64 (za r), .int .u64 (zs r), .bool false, .int .i64 (r : Int), .int .i64 0, .int .i64 (r : Int), .int .i64 0] 28)
        have hQ3 := hQ2.alloc (.cells #[.int .i64 (za r), .int .u64 (zs r), .bool false, .int .i64 (r : Int), .int .i64 0, .int .i64 (r : Int), .int .i64 0] 28)
        have hB3 := hB2.alloc hB2.size (.cells #[.int .i64 (za r), .int .u64 (zs r), .bool false, .int .i64 (r : Int), .int .i64 0, .int .i64 (r : Int), .int .i64 0] 28)
        have lE := hB2.size
        have lE2 := hQ2.lt
        generalize w2.alloc (.cells #[.int .i64 (za r), .int .u64 (zs r), .bool false, .int .i64 (r : Int), .int .i64 0, .int .i64 (r : Int), .int .i64 0] 28) = w3 at *
        generalize w2.heap.size = E at *
        clear H2 hQ2 hB2
        have q0 := hQ3.cell 0
        have x0 := hE3.cell 0; have x1 := hE3.cell 1; have x3 := hE3.cell 3; have x5 := hE3.cell 5
        have car := hA.at hB3 hr
        have csr := hS.at hB3 hr
        have zb := hz'.out r hr
        have g1 : decide ((r : Int) < 0) = false := by simp
        have g2 : decide ((m : Int) + 1 ≤ (r : Int)) = false := by simp; omega
        go_wp2_with fail
        go_quiet (fail)
        go_wp2_with fail
        have S3 : St w (w3.drewN nq) E m r za zs := ⟨H3.drewN _, hQ3.drewN _, hE3.drewN _, below_drewN hB3 _, by omega⟩
        clear H3 hQ3 hE3 hB3 q0 x0 x1 x3 x5 car csr zb g1 g2
        generalize w3.drewN nq = w4 at *
        go_loopw [9] (fun v wr => ∃ k : Nat, v = .int .i64 k ∧ k ≤ m + 1 ∧ St w wr E m r za zs) (fun v _ => m + 1 - (intOf v).toNat)
        case atStart => exact ⟨0, rfl, Nat.zero_le _, S3⟩
        case round =>
          obtain ⟨k2, rfl, hk2, S4⟩ := hrel
          by_cases hlt2 : k2 < m + 1
          · have x0 := S4.hE.cell 0; have x1 := S4.hE.cell 1
            have car := hA.at S4.below hlt2
            have csr := hS.at S4.below hlt2
            have zb := hz'.out k2 hlt2
            have hl : Hid (¬ (za k2 < za r ∨ (za k2 = za r ∧ zs k2 < zs r))) := F.out.2.1 k2 hlt2
            go_wp2_with fail
            go_quiet ((go_at_call 8; exact Calls.quiet_of_same (less_no _ _ _ _ _ hl.out)))
            go_wp2_with fail
            exact ⟨⟨k2 + 1, by go_num, by omega, S4.drewN _⟩, by simp [intOf]; omega⟩
          · have q0 := S4.hQ.cell 0
            go_wp2_with fail
            clear q0
            go_loopw [10] (fun v wr => ∃ k : Nat, v = .int .i64 ((k : Int) + 1) ∧ k ≤ m ∧ St w wr E m r za zs) (fun v _ => m + 1 - (intOf v).toNat)
            case atStart => exact ⟨0, rfl, Nat.zero_le _, S4⟩
            case round =>
              obtain ⟨k3, rfl, hk3, S5⟩ := hrel
              have q0 := S5.hQ.cell 0
              by_cases hlt3 : k3 + 1 < m
              · go_upto_region 28 with fail
                rw [show ((k3 : Int) / 2) = ((k3 / 2 : Nat) : Int) from by omega]
                have hl : Hid (¬ L (popF m (initF (m + 1) ((m + 1) / 2) (ev0 za zs)) (k3 + 1)) (popF m (initF (m + 1) ((m + 1) / 2) (ev0 za zs)) (k3 / 2))) := F.out.2.2.1 (k3 + 1) (by omega) hlt3
                have pk : k3 / 2 < m := by omega
                generalize k3 / 2 = p3 at *
                have a0 := S5.H.cell0 (i := k3 + 1) (by omega); have a1 := S5.H.cell1 (i := k3 + 1) (by omega)
                have b0 := S5.H.cell0 (i := p3) (by omega); have b1 := S5.H.cell1 (i := p3) (by omega)
                go_wp2_with fail
                go_quiet ((go_at_call 8; exact Calls.quiet_of_same (less_no _ _ _ _ _ hl.out)))
                go_wp2_with fail
                exact ⟨⟨k3 + 1, by go_num, by omega, S5.drewN _⟩, by simp [intOf]; omega⟩
              · go_upto_region 31 with fail
                have T5 : (wr.alloc (.cells (madeCells #[.bool false] (m + 1)) 4)).rowIs wr.heap.size 4 (m + 1) (fun _ => .bool false) := World.rowIs_made _ _ _ _
                have S6 := S5.alloc (.cells (madeCells #[.bool false] (m + 1)) 4)
                have lS := S5.hE.lt
                have lb := S5.below.size
                have lq := S5.lt
                clear q0
                generalize wr.alloc (.cells (madeCells #[.bool false] (m + 1)) 4) = w5 at *
                generalize wr.heap.size = SB at *
                have x5 := S6.hE.cell 5
                have t0 := T5.cell (i := r) hr
                have tz := T5.frozen r
                go_wp2_with fail
                clear x5 t0 tz
                have S7 := S6.other (a := ⟨SB, r, none⟩) (by simpa using lS) (.bool true)
                obtain ⟨μ, hμ⟩ := F.out.2.2.2
                have hμ' : Hid _ := hμ
                clear hμ
                have T7 : (w5.setCell ⟨SB, r, none⟩ (.bool true)).rowIs SB 4 (m + 1) (fun j => .bool (seenB μ r 0 j)) := (T5.set r (.bool true)).congr fun j _ => by
                  by_cases hj : j = r
                  · rw [if_pos hj]; simp [seenB, hj]
                  · rw [if_neg hj]; simp [seenB, hj]
                clear S6 T5
                generalize w5.setCell ⟨SB, r, none⟩ (.bool true) = w6 at *
                go_loopw [13] (fun v wr => ∃ k : Nat, v = .int .i64 k ∧ k ≤ m ∧ St w wr E m r za zs ∧ wr.rowIs SB 4 (m + 1) (fun j => .bool (seenB μ r k j))) (fun v _ => m + 1 - (intOf v).toNat)
                case atStart => exact ⟨0, rfl, Nat.zero_le _, S7, T7⟩
                case round =>
                  obtain ⟨k4, rfl, hk4, S8, T8⟩ := hrel
                  have q0 := S8.hQ.cell 0
                  by_cases hlt4 : k4 < m
                  · obtain ⟨hu1, hu2, hu3, hu4⟩ := hμ'.out k4 hlt4
                    have a0 : wr.cell? ⟨w.heap.size, k4 * 7, none⟩ = some (.int .i64 (za (μ k4))) := (S8.H.cell0 (i := k4) (by omega)).trans (by rw [hu2]; rfl)
                    have a1 : wr.cell? ⟨w.heap.size, k4 * 7 + 1, none⟩ = some (.int .u64 (zs (μ k4))) := (S8.H.cell1 (i := k4) (by omega)).trans (by rw [hu2]; rfl)
                    have a3 : wr.cell? ⟨w.heap.size, k4 * 7 + 3, none⟩ = some (.int .i64 (μ k4 : Int)) := (S8.H.cell3 (i := k4) (by omega)).trans (by rw [hu2]; rfl)
                    have a5 : wr.cell? ⟨w.heap.size, k4 * 7 + 5, none⟩ = some (.int .i64 (μ k4 : Int)) := (S8.H.cell5 (i := k4) (by omega)).trans (by rw [hu2]; rfl)
                    have sn : seenB μ r k4 (μ k4) = false := seenB_false hu3 fun i hi e => by
                      have := hu4 i (by omega) e.symm
                      omega
                    have t0 : wr.cell? ⟨SB, μ k4, none⟩ = some (.bool false) := (T8.cell (i := μ k4) hu1).trans (by rw [sn])
                    have tz := T8.frozen (μ k4)
                    have T9 := (T8.set (μ k4) (.bool true)).congr (g := fun j => .bool (seenB μ r (k4 + 1) j)) fun j _ => by
                      by_cases hj : j = μ k4
                      · rw [if_pos hj]; simp [seenB, hj]
                      · rw [if_neg hj]; simp [seenB, hj]
                    have T9' : Hid _ := T9
                    have car := hA.at S8.below hu1
                    have csr := hS.at S8.below hu1
                    have zb := hz'.out (μ k4) hu1
                    clear hu2 hu3 hu4 sn T9
                    generalize μ k4 = u at *
                    have g1 : decide ((u : Int) < 0) = false := by simp
                    have g2 : decide ((m : Int) + 1 ≤ (u : Int)) = false := by simp; omega
                    go_wp2_with fail
                    go_quiet (fail)
                    go_wp2_with fail
                    exact ⟨⟨k4 + 1, by go_num, by omega, (S8.drewN _).other (by simpa using lS) _, World.rowIs.of_block T9'.out rfl⟩, by simp [intOf]; omega⟩
                  · go_wp2_with fail
                    go_ret
                    exact ⟨rfl, S8.below⟩
end Go.Proofs.Ybulkddry
