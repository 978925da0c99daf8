import Derived.Test.YbulkddtoDoorBase
namespace Go.Proofs.YbulkddtoDoor
open Go.RowKit
set_option linter.unusedVariables false

/-- The count row c lies at block b from cell o. -/
def Cnt (w : World) (b o : Nat) (c : Nat → Int) : Prop := ∀ i, i < 5 → w.cell? ⟨b, o + i, none⟩ = some (.int .i32 (c i))
/-- The package's table lies in block 0. -/
def Tab (w : World) : Prop := ∀ i m, i < 5 → m < 5 → w.cell? ⟨0, i * 5 + m, none⟩ = some (.bool (tab i m))
theorem Cnt.drewN {w : World} {b o : Nat} {c : Nat → Int} (h : Cnt w b o c) (n : Nat) : Cnt (w.drewN n) b o c := h
theorem Tab.drewN {w : World} (h : Tab w) (n : Nat) : Tab (w.drewN n) := h

set_option maxHeartbeats 1600000 in
theorem confl_any (c : Nat → Int) (m b o : Nat) (hm : m < 5) (w : World) (hC : Cnt w b o c) (hT : Tab w) :
    Calls Ybad.prog 7 #[.pointer (some ⟨b, o, none⟩), .int .u8 m] w fun e w' => e = .returned (.bool (conf c m 5)) ∧ ∃ q, w' = w.drewN q := by
  go_enter Ybad.func7, Ybad.ntmps7
  go_wp2_with fail
  go_loopw [8] (fun v wr => ∃ (k q : Nat), v = .int .i64 k ∧ k ≤ 5 ∧ Hid (conf c m k = false) ∧ Hid (wr = w.drewN q)) (fun v _ => 5 - (intOf v).toNat)
  case atStart => exact ⟨0, 0, rfl, by omega, rfl, rfl⟩
  case round =>
    obtain ⟨k, q, rfl, hk, hf, hq⟩ := hrel
    by_cases hlt : k < 5
    · have c0 : wr.cell? ⟨b, o + k, none⟩ = some (.int .i32 (c k)) := by rw [hq.out]; exact hC k hlt
      have t0 : wr.cell? ⟨0, k * 5 + m, none⟩ = some (.bool (tab k m)) := by rw [hq.out]; exact hT k m hlt hm
      by_cases hp : 0 < c k
      · cases ht : tab k m with
        | true =>
          rw [ht] at t0
          have hy : Hid (conf c m 5 = true) := by
            have h1 : conf c m (k + 1) = true := by show (_ || _) = true; simp [hp, ht]
            have := conf_more h1 (5 - (k + 1))
            rwa [show k + 1 + (5 - (k + 1)) = 5 by omega] at this
          clear ht
          go_wp2_with fail
          go_quiet (fail)
          go_wp2
          go_ret
          exact ⟨by rw [hy.out]; rfl, _, by rw [hq.out]; exact World.drewN_drewN _ _ _⟩
        | false =>
          rw [ht] at t0
          have hn : Hid (conf c m (k + 1) = false) := by show (_ || _) = false; rw [hf.out, ht]; simp
          clear ht
          go_wp2_with fail
          go_quiet (fail)
          go_wp2
          exact ⟨⟨k + 1, _, by go_num, by omega, hn, by rw [hq.out]; exact World.drewN_drewN _ _ _⟩, by simp [intOf]; omega⟩
      · have hd : decide (0 < c k) = false := by simpa using hp
        have hn : Hid (conf c m (k + 1) = false) := by show (_ || _) = false; rw [hf.out, hd]; rfl
        go_wp2_with fail
        go_quiet (fail)
        go_wp2
        exact ⟨⟨k + 1, _, by go_num, by omega, hn, by rw [hq.out]; exact World.drewN_drewN _ _ _⟩, by simp [intOf]; omega⟩
    · obtain rfl : k = 5 := by omega
      go_wp2
      go_ret
      exact ⟨by rw [hf.out]; rfl, _, hq.out⟩
end Go.Proofs.YbulkddtoDoor
