import Derived.Test.YbulkddryHOrder1
namespace Go.Proofs.Ybulkddry
open Go.RowKit
set_option linter.unusedVariables false

theorem less_false (a sa b sb : Int) (w : World) (h : ¬ (a < b ∨ (a = b ∧ sa < sb))) : Calls Yba.prog 8 #[.int .i64 a, .int .u64 sa, .int .i64 b, .int .u64 sb] w fun e w' => e = .returned (.bool false) ∧ w' = w := by
  have h1 : decide (a < b) = false := by simp; omega
  by_cases h2 : a = b
  · have h3 : (a == b) = true := by simpa using h2
    have h4 : decide (sa < sb) = false := by simp; omega
    clear h h2
    go_enter Yba.func8, Yba.ntmps8
    go_wp2
    go_ret
    exact ⟨rfl, rfl⟩
  · have h3 : (a == b) = false := by simpa using h2
    clear h h2
    go_enter Yba.func8, Yba.ntmps8
    go_wp2
    go_ret
    exact ⟨rfl, rfl⟩

theorem less_true (a sa b sb : Int) (w : World) (h : a < b ∨ (a = b ∧ sa < sb)) : Calls Yba.prog 8 #[.int .i64 a, .int .u64 sa, .int .i64 b, .int .u64 sb] w fun e w' => e = .returned (.bool true) ∧ w' = w := by
  by_cases h0 : a < b
  · have h1 : decide (a < b) = true := by simpa using h0
    clear h h0
    go_enter Yba.func8, Yba.ntmps8
    go_wp2
    go_ret
    exact ⟨rfl, rfl⟩
  · have h1 : decide (a < b) = false := by simpa using h0
    have h3 : (a == b) = true := by simp; omega
    have h4 : decide (sa < sb) = true := by simp; omega
    clear h h0
    go_enter Yba.func8, Yba.ntmps8
    go_wp2
    go_ret
    exact ⟨rfl, rfl⟩

/-- A row of integers that came in. -/
def Come (w : World) (b off n : Nat) (z : Nat → Int) : Prop := b < w.heap.size ∧ ∀ i, i < n → w.cell? ⟨b, off + i, none⟩ = some (.int .i64 (z i))
theorem Come.at {w wr : World} {b off n : Nat} {z : Nat → Int} (h : Come w b off n z) (hb : Below w.heap.size w wr) {i : Nat} (hi : i < n) : wr.cell? ⟨b, off + i, none⟩ = some (.int .i64 (z i)) :=
  (hb.cell (p := ⟨b, off + i, none⟩) h.1).trans (h.2 i hi)

/-- The queue's header and row, and the row 'order'. -/
structure SO (w wr : World) (b cap OB n l : Nat) (h : Nat → Ev) (o : Nat → Nat) : Prop where
  hQ : At wr w.heap.size #[.slice (some ⟨b, 0, none⟩) l cap] 24
  H : Holds wr b n h
  R : wr.rowIs OB 3 n (fun j => .int .i64 (o j : Int))
  below : Below w.heap.size w wr
  hb : w.heap.size < b
  hOB : b < OB
  lt : OB < wr.heap.size
theorem SO.drewN {w wr : World} {b cap OB n l : Nat} {h : Nat → Ev} {o : Nat → Nat} (S : SO w wr b cap OB n l h o) (q : Nat) : SO w (wr.drewN q) b cap OB n l h o := ⟨S.hQ, S.H, S.R, below_drewN S.below q, S.hb, S.hOB, S.lt⟩
theorem SO.congr {w wr : World} {b cap OB n l : Nat} {h : Nat → Ev} {o o' : Nat → Nat} (S : SO w wr b cap OB n l h o) (e : ∀ i, i < n → o i = o' i) : SO w wr b cap OB n l h o' := ⟨S.hQ, S.H, S.R.congr (fun i hi => by rw [e i hi]), S.below, S.hb, S.hOB, S.lt⟩
theorem SO.set {w wr : World} {b cap OB n l : Nat} {h : Nat → Ev} {o : Nat → Nat} (S : SO w wr b cap OB n l h o) (i x : Nat) : SO w (wr.setCell ⟨OB, i, none⟩ (.int .i64 (x : Int))) b cap OB n l h (fun j => if j = i then x else o j) :=
  have h1 := S.hb
  have h2 := S.hOB
  ⟨S.hQ.other (by simp; omega) _, S.H.other (by simp; omega) _, (S.R.set i _).congr (fun j _ => by split <;> rfl), S.below.setCell (by simp; omega) _, S.hb, S.hOB, by have := S.lt; simpa using this⟩

theorem SO.alloc {w wr : World} {b cap OB n l : Nat} {h : Nat → Ev} {o : Nat → Nat} (S : SO w wr b cap OB n l h o) (ob : Obj) : SO w (wr.alloc ob) b cap OB n l h o :=
  ⟨S.hQ.alloc ob, S.H.alloc ob, S.R.alloc ob, S.below.alloc S.below.size ob, S.hb, S.hOB, by have := S.lt; simp; omega⟩

set_option maxRecDepth 100000 in
set_option maxHeartbeats 6400000 in
theorem order_walk (ba oa ca n : Nat) (za : Nat → Int) (w : World) (hN : n ≤ 1024) (h0 : 0 < n) (hA : Come w ba oa n za) :
    Calls Yba.prog 3 #[.slice (some ⟨ba, oa, none⟩) n ca] w fun e w' => e = .returned (.bool true) ∧ Below w.heap.size w w' := by
  have hmk := run_make_row' (P := Yba.prog) 29 3 (.int .i64 0) 8 Yba.underlying29 (by kernel_rfl) rfl .i64 .i64 n (by omega) (by omega)
  have d1 : decide (1024 < (n : Int)) = false := by simp; omega
  go_enter Yba.func3, Yba.ntmps3
  go_wp2_with fail
  go_loopw [5] (fun v wr => ∃ k : Nat, v = .int .i64 k ∧ k ≤ n ∧ ∃ vv, At wr w.heap.size #[vv] 24 ∧ Own wr (w.heap.size + 1) vv k (heapK za k) ∧ Below w.heap.size w wr) (fun v _ => n - (intOf v).toNat)
  case atStart => exact ⟨0, rfl, Nat.zero_le _, _, At.new _ _ _, Own.nil _ _ _, (Below.refl _ _).alloc (Nat.le_refl _) _⟩
  case round =>
    obtain ⟨k, rfl, hk, vv, hQ, HO, hB⟩ := hrel
    by_cases hlt : k < n
    · have ca := hA.at hB hlt
      go_wp2_with fail
      refine (push_any w.heap.size k vv (heapK za k) (evO za k) wr hQ HO (by omega)).mono ?_
      rintro e w1 ⟨rfl, v1, hQ1, HO1, bl1⟩
      have hB1 := hB.trans bl1
      clear ca hQ HO bl1 hB
      go_wp2_with fail
      exact ⟨⟨k + 1, by go_num, by omega, v1, hQ1, HO1, hB1⟩, by simp [intOf]; omega⟩
    · obtain rfl : n = k := by omega
      obtain ⟨b, cap, rfl, hb, hcap, _, H, _⟩ := HO.open h0
      have lb := H.lt
      have lw := hB.size
      go_upto_region 10 with fail
      have S1 : SO w (wr.alloc (.cells (madeCells #[.int .i64 0] n) 3)) b cap wr.heap.size n n (heapK za n) (fun j => if j < 0 then j else 0) :=
        ⟨hQ.alloc _, H.alloc _, (World.rowIs_made _ _ _ _).congr (fun j _ => by simp), hB.alloc hB.size _, hb, lb, by simp⟩
      generalize wr.alloc (.cells (madeCells #[.int .i64 0] n) 3) = w2 at *
      generalize wr.heap.size = OB at *
      clear hQ HO H hB hmk
      go_wp2_with fail
      go_loopw [7] (fun v wr => ∃ k : Nat, v = .int .i64 k ∧ k ≤ n ∧ SO w wr b cap OB n n (heapK za n) (fun j => if j < k then j else 0)) (fun v _ => n - (intOf v).toNat)
      case atStart => exact ⟨0, rfl, Nat.zero_le _, S1⟩
      case round =>
        obtain ⟨k2, rfl, hk2, S2⟩ := hrel
        by_cases hlt2 : k2 < n
        · have c0 := S2.R.cell (i := k2) hlt2
          have cz := S2.R.frozen k2
          go_wp2_with fail
          exact ⟨⟨k2 + 1, by go_num, by omega, (S2.set k2 k2).congr (fun i _ => by
            by_cases e : i = k2
            · subst e; simp
            · simp [e]; by_cases e2 : i < k2
              · rw [if_pos e2, if_pos (by omega)]
              · rw [if_neg e2, if_neg (by omega)])⟩, by simp [intOf]; omega⟩
        · have S3 : SO w wr b cap OB n n (heapK za n) (sortF za 0) := S2.congr fun i hi => by rw [if_pos (by omega)]; rfl
          clear S2
          go_wp2_with fail
          go_loopw [8] (fun v wr => ∃ k : Nat, v = .int .i64 ((k : Int) + 1) ∧ k < n ∧ SO w wr b cap OB n n (heapK za n) (sortF za k)) (fun v _ => n - (intOf v).toNat)
          case atStart => exact ⟨0, rfl, h0, S3⟩
          case round =>
            obtain ⟨k3, rfl, hk3, S4⟩ := hrel
            by_cases hlt3 : k3 + 1 < n
            · obtain ⟨g, hg⟩ : ∃ g, Hid (sortF za (k3 + 1) = g) := ⟨_, rfl⟩
              have B4 : Hid (Bij n (sortF za k3)) := (sortF_sorted k3 (by omega)).1
              go_wp2_with fail
              go_loopw [9] (fun v wr => ∃ (j : Nat) (o : Nat → Nat), v = .int .i64 j ∧ j ≤ k3 + 1 ∧ Hid (insF za j o = g) ∧ Hid (Bij n o) ∧ SO w wr b cap OB n n (heapK za n) o) (fun v _ => (intOf v).toNat)
              case atStart => exact ⟨k3 + 1, sortF za k3, by go_num, Nat.le_refl _, hg, B4, S4⟩
              case round =>
                obtain ⟨j, o, rfl, hj, hi, hB, S5⟩ := hrel
                cases j with
                | zero =>
                  have gd : decide ((0 : Int) < ((0 : Nat) : Int)) = false := by simp
                  go_wp2_with fail
                  go_quiet (fail)
                  go_wp2_with fail
                  exact ⟨⟨k3 + 1, by go_num, hlt3, by rw [hg.out, ← hi.out]; exact S5.drewN _⟩, by simp [intOf]; omega⟩
                | succ j =>
                  obtain ⟨τ, hτ⟩ := hB.out
                  have x1 := (hτ (j + 1) (by omega)).1
                  have y1 := (hτ j (by omega)).1
                  have c0 := S5.R.cell (i := j + 1) (by omega)
                  have c1 := S5.R.cell (i := j) (by omega)
                  have cz := S5.R.frozen (j + 1)
                  have cy := S5.R.frozen j
                  have a0 := hA.at S5.below x1
                  have a1 := hA.at S5.below y1
                  have hτ' : Hid _ := hτ
                  clear hτ
                  by_cases hl : lessB za (o (j + 1)) (o j) = true
                  · have hK : Hid (za (o (j + 1)) < za (o j) ∨ (za (o (j + 1)) = za (o j) ∧ ((o (j + 1) : Nat) : Int) < ((o j : Nat) : Int))) := by
                      have := lessB_true.1 hl
                      show _ ∨ _
                      unfold K at this
                      omega
                    have hi' : Hid (insF za j (swo o (j + 1) j) = g) := by
                      have := hi.out
                      rw [insF, if_pos hl] at this
                      exact this
                    clear hl
                    go_wp2_with fail
                    go_quiet ((go_at_call 8; exact Calls.quiet_of_same (less_true _ _ _ _ _ hK.out)))
                    go_wp2_with fail
                    exact ⟨⟨j, swo o (j + 1) j, rfl, by omega, hi', hB.out.swo (by omega) (by omega) (by omega), ((S5.drewN _).set (j + 1) (o j)).set j (o (j + 1))⟩, by simp [intOf]⟩
                  · have hK : Hid (¬ (za (o (j + 1)) < za (o j) ∨ (za (o (j + 1)) = za (o j) ∧ ((o (j + 1) : Nat) : Int) < ((o j : Nat) : Int)))) := by
                      show ¬ _
                      intro hx
                      exact hl (lessB_true.2 (by unfold K; omega))
                    have hi' : Hid (o = g) := by
                      have := hi.out
                      rw [insF, if_neg hl] at this
                      exact this
                    clear hl
                    go_wp2_with fail
                    go_quiet ((go_at_call 8; exact Calls.quiet_of_same (less_false _ _ _ _ _ hK.out)))
                    go_wp2_with fail
                    exact ⟨⟨k3 + 1, by go_num, hlt3, by rw [hg.out, ← hi'.out]; exact S5.drewN _⟩, by simp [intOf]; omega⟩
            · obtain rfl : k3 = n - 1 := by omega
              have hf : Hid _ := order_facts n za
              clear S3
              go_wp2_with fail
              go_loopw [11] (fun v wr => ∃ k : Nat, v = .int .i64 k ∧ k ≤ n ∧ SO w wr b cap OB n (n - k) (popK n za k) (sortF za (n - 1))) (fun v _ => n - (intOf v).toNat)
              case atStart => exact ⟨0, rfl, Nat.zero_le _, S4⟩
              case round =>
                obtain ⟨k5, rfl, hk5, S6⟩ := hrel
                by_cases hlt5 : k5 < n
                · obtain ⟨m, hm⟩ : ∃ m, n - k5 = m + 1 := ⟨n - k5 - 1, by omega⟩
                  have hQ6 := S6.hQ
                  rw [hm] at hQ6
                  have HM : Hid (n - k5 = m + 1) := hm
                  clear hm
                  go_wp2_with fail
                  refine (pop_any w.heap.size b n m cap (popK n za k5) wr S6.H hQ6 (by have := HM.out; omega) (by have := HM.out; omega) (by have := HM.out; omega)).mono ?_
                  rintro e w6 ⟨rfl, H7, hQ7, bt7⟩
                  obtain ⟨f1, f2⟩ := hf.out k5 hlt5
                  rw [f2]
                  simp only [evO]
                  clear f2
                  have S7 : SO w w6 b cap OB n m (popK n za (k5 + 1)) (sortF za (n - 1)) := by
                    have h1 := S6.hb
                    have h2 := S6.hOB
                    refine ⟨hQ7, ?_, World.rowIs.of_block S6.R (bt7.block OB S6.lt (by simp; omega)), S6.below.trans (bt7.toBelow S6.below.size (by simp; omega)), h1, h2, Nat.lt_of_lt_of_le S6.lt bt7.size⟩
                    rw [popK, show n - k5 - 1 = m by have := HM.out; omega]
                    exact H7
                  clear H7 hQ7 bt7 S6 hQ6
                  go_upto_region 27 with fail
                  have hE8 := At.new w6 #[.int .i64 (za (sortF za (n - 1) k5)), .int .u64 ((sortF za (n - 1) k5 : Nat) : Int), .bool false, .int .i64 0, .int .i64 ((sortF za (n - 1) k5 : Nat) : Int), .int .i64 ((sortF za (n - 1) k5 : Nat) : Int), .int .i64 0] 28
                  have S8 := S7.alloc (.cells #[.int .i64 (za (sortF za (n - 1) k5)), .int .u64 ((sortF za (n - 1) k5 : Nat) : Int), .bool false, .int .i64 0, .int .i64 ((sortF za (n - 1) k5 : Nat) : Int), .int .i64 ((sortF za (n - 1) k5 : Nat) : Int), .int .i64 0] 28)
                  clear S7
                  generalize w6.alloc (.cells #[.int .i64 (za (sortF za (n - 1) k5)), .int .u64 ((sortF za (n - 1) k5 : Nat) : Int), .bool false, .int .i64 0, .int .i64 ((sortF za (n - 1) k5 : Nat) : Int), .int .i64 ((sortF za (n - 1) k5 : Nat) : Int), .int .i64 0] 28) = w8 at *
                  generalize w6.heap.size = E at *
                  have q0 := S8.hQ.cell 0
                  have c0 := S8.R.cell (i := k5) hlt5
                  have a0 := hA.at S8.below f1
                  have e0 := hE8.cell 0; have e1 := hE8.cell 1; have e4 := hE8.cell 4; have e5 := hE8.cell 5
                  have S8' : Hid _ := S8
                  clear S8
                  generalize sortF za (n - 1) k5 = x at *
                  have gm : ((m : Int) != (n : Int) - (k5 : Int) - 1) = false := by have := HM.out; simp; omega
                  go_wp2_with fail
                  go_quiet (fail)
                  go_wp2_with fail
                  exact ⟨⟨k5 + 1, by go_num, by omega, by rw [show n - (k5 + 1) = m by have := HM.out; omega]; exact S8'.out.drewN _⟩, by simp [intOf]; omega⟩
                · have hQ6 := S6.hQ
                  rw [show n - k5 = 0 by omega] at hQ6
                  have q0 := hQ6.cell 0
                  go_wp2_with fail
                  go_ret
                  exact ⟨rfl, S6.below⟩
end Go.Proofs.Ybulkddry
