import Derived.Test.YbulkddryCBase
import Derived.WalkSmall
namespace Go.Proofs.Ybulkddry
open Go.RowKit

/-- How many of the first k tells have arrived more than cap times and name the attempt or a later one. -/
def cnt (T : Tells) (cap attempt : Int) : Nat → Nat
  | 0 => 0
  | k + 1 => cnt T cap attempt k + if cap < T.tim k ∧ attempt ≤ T.att k then 1 else 0
theorem cnt_le (T : Tells) (cap attempt : Int) (k : Nat) : cnt T cap attempt k ≤ k := by
  induction k with
  | zero => exact Nat.le_refl _
  | succ k ih => unfold cnt; split <;> omega

theorem cnt_yes {T : Tells} {cap attempt : Int} {k : Nat} (h1 : cap < T.tim k) (h2 : attempt ≤ T.att k) : cnt T cap attempt (k + 1) = cnt T cap attempt k + 1 := by
  show _ + _ = _; rw [if_pos ⟨h1, h2⟩]
theorem cnt_no {T : Tells} {cap attempt : Int} {k : Nat} (h : ¬ (cap < T.tim k ∧ attempt ≤ T.att k)) : cnt T cap attempt (k + 1) = cnt T cap attempt k := by
  show _ + _ = _; rw [if_neg h]; rfl

theorem counts_any (a c : Int) (w : World) : Calls Yba.prog 15 #[.int .i64 a, .int .i64 c] w fun e w' => e = .returned (.bool (decide (c < a))) ∧ w' = w := by
  go_enter Yba.func15, Yba.ntmps15
  go_wp2
  go_ret
  exact ⟨rfl, rfl⟩

theorem counts_no (a c : Int) (w : World) (h : a ≤ c) : Calls Yba.prog 15 #[.int .i64 a, .int .i64 c] w fun e w' => e = .returned (.bool false) ∧ w' = w :=
  (counts_any a c w).mono fun _ _ ⟨h1, h2⟩ => ⟨by rw [h1, decide_eq_false (by omega)], h2⟩

theorem cell_of {w : World} {b : Nat} {c : Array Value} {T : TypeId} (h : w.heap[b]? = some (.cells c T)) (i : Nat) : w.cell? ⟨b, i, none⟩ = c[i]? := by simp [World.cell?, h]
theorem lt_of {w : World} {b : Nat} {c : Array Value} {T : TypeId} (h : w.heap[b]? = some (.cells c T)) : b < w.heap.size := (Array.getElem?_eq_some_iff.1 h).1

theorem stalled_decided (S TS n : Nat) (waited patience capacity t attempt : Int) (w : World) (hS : w.heap[S]? = some (.cells (slot true waited patience capacity t attempt n TS) 54)) :
    Calls Yba.prog 12 #[.pointer (some ⟨S, 0, none⟩)] w fun e w' => e = .returned (.bool false) ∧ Below w.heap.size w w' := by
  have c16 := cell_of hS 16
  go_enter Yba.func12, Yba.ntmps12
  go_wp2_with fail
  go_quiet (fail)
  go_wp2
  go_ret
  exact ⟨rfl, below_drewN (Below.refl _ _) _⟩

theorem stalled_early (S TS n : Nat) (waited patience capacity t attempt : Int) (w : World) (hS : w.heap[S]? = some (.cells (slot false waited patience capacity t attempt n TS) 54))
    (hp0 : -2147483648 ≤ patience) (hp1 : patience ≤ 2147483647) (hlt : waited < 2 * patience) :
    Calls Yba.prog 12 #[.pointer (some ⟨S, 0, none⟩)] w fun e w' => e = .returned (.bool false) ∧ Below w.heap.size w w' := by
  have c16 := cell_of hS 16
  have c10 := cell_of hS 10
  have c6 := cell_of hS 6
  go_enter Yba.func12, Yba.ntmps12
  go_wp2_with fail
  go_quiet (fail)
  go_wp2
  go_ret
  exact ⟨rfl, below_drewN (Below.refl _ _) _⟩

set_option maxHeartbeats 1600000 in
theorem stalled_full (S TS n : Nat) (T : Tells) (waited patience capacity t attempt : Int) (w : World) (hn : n ≤ 1024) (hS : w.heap[S]? = some (.cells (slot false waited patience capacity t attempt n TS) 54))
    (hr : w.rowIs TS 59 (n * 4) T.cell) (hp0 : -2147483648 ≤ patience) (hp1 : patience ≤ 2147483647) (hge : 2 * patience ≤ waited) :
    Calls Yba.prog 12 #[.pointer (some ⟨S, 0, none⟩)] w fun e w' => e = .returned (.bool (decide (t < cnt T capacity attempt n))) ∧ Below w.heap.size w w' := by
  have c16 := cell_of hS 16
  have c10 := cell_of hS 10
  have c6 := cell_of hS 6
  have c21 := cell_of hS 21
  have hd : decide (waited < 2 * patience) = false := by simp; omega
  go_enter Yba.func12, Yba.ntmps12
  go_wp2_with fail
  go_quiet (fail)
  go_wp2
  clear c16 c10 c6 c21
  go_loopw [3, 28] (fun c i wr => ∃ k : Nat, k ≤ n ∧ i = .int .i64 k ∧ c = .int .i64 (cnt T capacity attempt k) ∧ Below w.heap.size w wr) (fun _ i _ => n - (intOf i).toNat)
  case atStart =>
    exact ⟨0, Nat.zero_le _, rfl, rfl, below_drewN (Below.refl _ _) _⟩
  case round =>
    obtain ⟨k, hk, rfl, rfl, hb⟩ := hrel
    have hle := cnt_le T capacity attempt k
    have hS' : wr.heap[S]? = some (.cells (slot false waited patience capacity t attempt n TS) 54) := (hb.block S (lt_of hS)).trans hS
    have hr' := hr.of_block (hb.block TS hr.lt)
    have lS := lt_of hS'
    have lT := hr'.lt
    by_cases hlt : k < n
    · have r0 : wr.cell? ⟨TS, k * 4, none⟩ = some (.int .u64 (T.att k)) := (hr'.cell (i := k * 4) (by omega)).trans (by rw [T.cell0])
      have r1 : wr.cell? ⟨TS, k * 4 + 1, none⟩ = some (.int .i64 (T.res k)) := (hr'.cell (i := k * 4 + 1) (by omega)).trans (by rw [T.cell1])
      have r2 : wr.cell? ⟨TS, k * 4 + 2, none⟩ = some (.bool (T.tak k)) := (hr'.cell (i := k * 4 + 2) (by omega)).trans (by rw [T.cell2])
      have r3 : wr.cell? ⟨TS, k * 4 + 3, none⟩ = some (.int .i64 (T.tim k)) := (hr'.cell (i := k * 4 + 3) (by omega)).trans (by rw [T.cell3])
      have s5 := cell_of hS' 5
      have s9 := cell_of hS' 9
      by_cases hg : capacity < T.tim k
      · by_cases ha : attempt ≤ T.att k
        · go_wp2_with fail
          go_quiet ((go_at_call 15; exact Calls.quiet_of_same (counts_any _ _ _)))
          go_wp2
          exact ⟨⟨k + 1, by omega, by go_num, by rw [cnt_yes hg ha]; go_num, below_drewN (hb.alloc hb.size _) _⟩, by simp [intOf]; omega⟩
        · have hd2 : decide (attempt ≤ T.att k) = false := by simpa using ha
          go_wp2_with fail
          go_quiet ((go_at_call 15; exact Calls.quiet_of_same (counts_any _ _ _)))
          go_wp2
          exact ⟨⟨k + 1, by omega, by go_num, by rw [cnt_no (by omega)], below_drewN (hb.alloc hb.size _) _⟩, by simp [intOf]; omega⟩
      · · go_wp2_with fail
          go_quiet ((go_at_call 15; exact Calls.quiet_of_same (counts_no _ _ _ (by omega))))
          go_wp2
          exact ⟨⟨k + 1, by omega, by go_num, by rw [cnt_no (by omega)], below_drewN (hb.alloc hb.size _) _⟩, by simp [intOf]; omega⟩
    · have s1 := cell_of hS' 1
      go_wp2
      go_ret
      obtain rfl : k = n := by omega
      exact ⟨rfl, hb⟩
end Go.Proofs.Ybulkddry
