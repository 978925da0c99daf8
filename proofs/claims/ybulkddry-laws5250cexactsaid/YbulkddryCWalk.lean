import Derived.Test.YbulkddryCStalled
namespace Go.Proofs.Ybulkddry
open Go.RowKit

set_option maxHeartbeats 1600000 in
theorem exact_any (a0 : Option Addr) (n cap : Nat) (T : Tells) (decided : Bool) (waited patience capacity t attempt : Int) (w : World) (hn : n ≤ 1024)
    (hrow : ∀ k, k < n → ∃ b off, a0 = some ⟨b, off, none⟩ ∧ b < w.heap.size ∧ ∀ j, j < 4 → w.cell? ⟨b, off + (k * 4 + j), none⟩ = some (T.cell (k * 4 + j)))
    (hw0 : -2147483648 ≤ waited) (hw1 : waited ≤ 2147483647) (hp0 : -2147483648 ≤ patience) (hp1 : patience ≤ 2147483647) :
    Calls Yba.prog 5 #[.bool decided, .int .i32 waited, .int .i32 patience, .int .i64 capacity, .int .i64 t, .int .u64 attempt, .slice a0 n cap] w fun e w' =>
      e = .returned (.bool true) ∧ Below w.heap.size w w' := by
  go_enter Yba.func5, Yba.ntmps5
  go_wp2_with (go_at_call 11; refine (build_any a0 n cap T decided waited patience capacity t attempt _ hn hrow hw0 hw1 hp0 hp1).mono ?_; rintro e w1 ⟨S, rfl, hS, hr, hb⟩)
  obtain ⟨g, hg⟩ : ∃ g : Bool, Hid (g = (!decided && decide (2 * patience ≤ waited) && decide (t < cnt T capacity attempt n))) := ⟨_, rfl⟩
  refine Calls.mono (R := fun e w' => e = .returned (.bool g) ∧ Below w1.heap.size w1 w') ?_ ?_
  · cases decided with
    | true => exact (stalled_decided S _ n waited patience capacity t attempt w1 hS).mono fun e w' ⟨h1, h2⟩ => ⟨by rw [h1, hg.out]; rfl, h2⟩
    | false =>
      by_cases hlt : waited < 2 * patience
      · exact (stalled_early S _ n waited patience capacity t attempt w1 hS hp0 hp1 hlt).mono fun e w' ⟨h1, h2⟩ => ⟨by rw [h1, hg.out, decide_eq_false (by omega : ¬ 2 * patience ≤ waited)]; rfl, h2⟩
      · exact (stalled_full S _ n T waited patience capacity t attempt w1 hn hS hr hp0 hp1 (by omega)).mono fun e w' ⟨h1, h2⟩ => ⟨by rw [h1, hg.out, decide_eq_true (by omega : 2 * patience ≤ waited)]; simp, h2⟩
  rintro e w2 ⟨rfl, hb2⟩
  have hB : Below w.heap.size w w2 := hb.trans (hb2.mono hb.size)
  clear hS hr hb hb2
  go_wp2
  go_loop [17, 18] (fun c i => ∃ k : Nat, k ≤ n ∧ i = .int .i64 k ∧ c = .int .i64 (cnt T capacity attempt k)) (fun _ i => n - (intOf i).toNat)
  case atStart => exact ⟨0, Nat.zero_le _, rfl, rfl⟩
  case round =>
    obtain ⟨k, hk, rfl, rfl⟩ := hrel
    have hle := cnt_le T capacity attempt k
    by_cases hlt : k < n
    · obtain ⟨b, off, rfl, hbl, hc⟩ := hrow k hlt
      have hc' : ∀ j, j < 4 → w2.cell? ⟨b, off + (k * 4 + j), none⟩ = some (T.cell (k * 4 + j)) := fun j hj => (hB.cell (p := ⟨b, off + (k * 4 + j), none⟩) hbl).trans (hc j hj)
      have c0 : w2.cell? ⟨b, off + k * 4, none⟩ = some (.int .u64 (T.att k)) := (hc' 0 (by omega)).trans (by rw [Nat.add_zero, T.cell0])
      have c3 : w2.cell? ⟨b, off + k * 4 + 3, none⟩ = some (.int .i64 (T.tim k)) := (hc' 3 (by omega)).trans (by rw [T.cell3])
      clear hrow hc hc'
      by_cases h1 : capacity < T.tim k
      · by_cases h2 : attempt ≤ T.att k
        · go_wp2
          go_round
          case rel => exact ⟨k + 1, by omega, by go_num, by rw [cnt_yes h1 h2]; go_num⟩
          case measure => simp [intOf]; omega
        · have hd2 : decide (attempt ≤ T.att k) = false := by simpa using h2
          go_wp2
          go_round
          case rel => exact ⟨k + 1, by omega, by go_num, by rw [cnt_no (by omega)]⟩
          case measure => simp [intOf]; omega
      · have hd2 : decide (capacity < T.tim k) = false := by simpa using h1
        go_wp2
        go_round
        case rel => exact ⟨k + 1, by omega, by go_num, by rw [cnt_no (by omega)]⟩
        case measure => simp [intOf]; omega
    · obtain rfl : k = n := by omega
      cases decided with
      | true =>
        go_wp2
        go_ret
        exact ⟨by simp [hg.out], hB⟩
      | false =>
        by_cases hlt : 2 * patience ≤ waited
        · go_wp2
          go_ret
          exact ⟨by simp [hg.out]; omega, hB⟩
        · have hd2 : decide (2 * patience ≤ waited) = false := by simpa using hlt
          go_wp2
          go_ret
          exact ⟨by simp [hg.out]; omega, hB⟩
end Go.Proofs.Ybulkddry
