import Derived.Test.YbulkddryHLaw
namespace Go.Proofs.Ybulkddry
open Go.RowKit
set_option linter.unusedVariables false

theorem Holds.congr {w : World} {b N : Nat} {h g : Nat → Ev} (H : Holds w b N h) (e : ∀ i, i < N → h i = g i) : Holds w b N g :=
  rowLe.congr H fun j hj => by unfold rowc; rw [e _ (by omega)]

/-- The events that the law lays. -/
def ev0 (za zs : Nat → Int) (k : Nat) : Ev := ⟨za k, zs k, false, k, 0, k, 0⟩

/-- What the heap law looks at, plainly. -/
theorem heap_facts (za zs : Nat → Int) (m : Nat) :
    ∃ r, r < m + 1 ∧ initF (m + 1) ((m + 1) / 2) (ev0 za zs) 0 = ev0 za zs r ∧ (∀ i, i < m + 1 → ¬ L (ev0 za zs i) (ev0 za zs r)) ∧
      (∀ i, 0 < i → i < m → ¬ L (popF m (initF (m + 1) ((m + 1) / 2) (ev0 za zs)) i) (popF m (initF (m + 1) ((m + 1) / 2) (ev0 za zs)) ((i - 1) / 2))) ∧
      ∃ μ : Nat → Nat, ∀ i, i < m → μ i < m + 1 ∧ popF m (initF (m + 1) ((m + 1) / 2) (ev0 za zs)) i = ev0 za zs (μ i) ∧ μ i ≠ r ∧ ∀ j, j < m → μ i = μ j → i = j := by
  obtain ⟨h1, hh1⟩ : ∃ h1, h1 = initF (m + 1) ((m + 1) / 2) (ev0 za zs) := ⟨_, rfl⟩
  rw [← hh1]
  have H1 : HeapFrom 0 (m + 1) h1 := hh1 ▸ init_heap _ _
  have P1 : Perm (m + 1) (ev0 za zs) h1 := hh1 ▸ initF_perm _ _
  obtain ⟨σ, τ, hp⟩ := P1
  obtain ⟨s0, t0, _, ts0, e0⟩ := hp 0 (by omega)
  refine ⟨σ 0, s0, e0, fun i hi => ?_, fun i i0 im => pop_heap H1 i i0 im (Nat.zero_le _), ?_⟩
  · obtain ⟨_, ti, st, _, _⟩ := hp i hi
    have := heap_root H1 (τ i + 1) (τ i) (by omega) ti
    rw [e0, (hp (τ i) ti).2.2.2.2, st] at this
    exact this
  · obtain ⟨σ', τ', hq⟩ : Perm m (upd (upd h1 0 (h1 m)) m zeroEv) (popF m h1) := downF_perm _ _ _
    -- the element that stands at i behind the exchange of the last for the first
    have base : ∀ i, i < m → upd (upd h1 0 (h1 m)) m zeroEv i = ev0 za zs (σ (if i = 0 then m else i)) := fun i hi => by
      rw [upd_other _ _ (by omega)]
      by_cases h0 : i = 0
      · subst h0; rw [upd_same, if_pos rfl]; exact (hp m (by omega)).2.2.2.2
      · rw [upd_other _ _ h0, if_neg h0]; exact (hp i (by omega)).2.2.2.2
    have inj : ∀ i j, i < m + 1 → j < m + 1 → σ i = σ j → i = j := fun i j hi hj e => by
      have a := (hp i hi).2.2.2.1
      have b := (hp j hj).2.2.2.1
      rw [← a, ← b, e]
    refine ⟨fun i => σ (if σ' i = 0 then m else σ' i), fun i hi => ?_⟩
    obtain ⟨s1, t1, _, ts1, e1⟩ := hq i hi
    have hlt : (if σ' i = 0 then m else σ' i) < m + 1 := by split <;> omega
    refine ⟨(hp _ hlt).1, by rw [e1, base _ s1], fun e => ?_, fun j hj e => ?_⟩
    · have := inj _ _ hlt (by omega) e
      split at this <;> omega
    · obtain ⟨s2, t2, _, ts2, e2⟩ := hq j hj
      have hlt2 : (if σ' j = 0 then m else σ' j) < m + 1 := by split <;> omega
      have := inj _ _ hlt hlt2 e
      have hs : σ' i = σ' j := by split at this <;> split at this <;> omega
      rw [← ts1, ← ts2, hs]

theorem less_no (a sa b sb : Int) (w : World) (h : ¬ (a < b ∨ (a = b ∧ sa < sb))) : Calls Yba.prog 8 #[.int .i64 a, .int .u64 sa, .int .i64 b, .int .u64 sb] w fun e w' => e = .returned (.bool false) ∧ w' = w := by
  have h1 : decide (a < b) = false := by simp; omega
  by_cases h2 : a = b
  · have h3 : (a == b) = true := by simpa using h2
    have h4 : decide (sa < sb) = false := by simp; omega
    clear h h2
    go_enter Yba.func8, Yba.ntmps8
    go_wp2
    go_ret
    exact ⟨rfl, rfl⟩
  · have h3 : (a == b) = false := by simpa using h2
    clear h h2
    go_enter Yba.func8, Yba.ntmps8
    go_wp2
    go_ret
    exact ⟨rfl, rfl⟩

theorem make28 (n : Nat) (hn : n ≤ 1024) (w : World) :
    (Instr.makeSlice 24 (.int .i64 (n : Int)) (.int .i64 (n : Int))).run Yba.prog w = .ok (.slice (some ⟨w.heap.size, 0, none⟩) n n) (w.alloc (.cells (madeCells zeroEv.cells (n * 7)) 28)) := by
  have hinfo : (Yba.prog.info? 28).map (fun i => (i.zero, i.size, i.bytes)) = some (some (.agg #[.int .i64 0, .int .u64 0, .bool false, .int .i64 0, .int .i64 0, .int .i64 0, .int .i64 0]), 7, 56) := by kernel_rfl
  obtain ⟨i, hi, hzz⟩ := Option.map_eq_some_iff.1 hinfo
  simp only [Prod.mk.injEq] at hzz
  obtain ⟨hz, hs, hb⟩ := hzz
  have := run_make (P := Yba.prog) w 24 28 i _ Yba.underlying24 hi hz .i64 .i64 n n (by omega) (Int.le_refl _) (by rw [hb]; omega) (by omega)
  rw [hs] at this
  simp only [Int.toNat_natCast] at this
  exact this

theorem made28 (n : Nat) (w : World) : Holds (w.alloc (.cells (madeCells zeroEv.cells (n * 7)) 28)) w.heap.size n (fun _ => zeroEv) := by
  refine ⟨_, At.new _ _ _, by rw [size_madeCells]; exact Nat.le_refl _, fun i hi => ?_⟩
  have h : i % 7 = 0 ∨ i % 7 = 1 ∨ i % 7 = 2 ∨ i % 7 = 3 ∨ i % 7 = 4 ∨ i % 7 = 5 ∨ i % 7 = 6 := by omega
  rcases h with h | h | h | h | h | h | h <;> simp [madeCells, hi, zeroEv, rowc, Ev.cell, h]
end Go.Proofs.Ybulkddry
