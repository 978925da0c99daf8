import Derived.Test.YbulkddryHPush
namespace Go.Proofs.Ybulkddry
set_option linter.unusedVariables false

/-- a happens before b. -/
def L (a b : Ev) : Prop := a.at' < b.at' ∨ (a.at' = b.at' ∧ a.seq < b.seq)
theorem bef_true {a b : Ev} : bef a b = true ↔ L a b := by simp [bef, L]
theorem bef_false {a b : Ev} : bef a b = false ↔ ¬ L a b := by rw [← bef_true]; simp
theorem L_asymm {a b : Ev} (h : L a b) : ¬ L b a := by unfold L at *; omega
theorem L_trans {a b c : Ev} (h : L a b) (k : L b c) : L a c := by unfold L at *; omega
theorem L_neg {a b c : Ev} (h : ¬ L a b) (k : ¬ L b c) : ¬ L a c := by unfold L at *; omega

theorem swp_i (h : Nat → Ev) {i j : Nat} (hij : i ≠ j) : swp h i j i = h j := by simp [swp, upd, hij]
theorem swp_j (h : Nat → Ev) (i j : Nat) : swp h i j j = h i := by simp [swp, upd]
theorem swp_o (h : Nat → Ev) {i j k : Nat} (hi : k ≠ i) (hj : k ≠ j) : swp h i j k = h k := by simp [swp, upd, hi, hj]

/-- Every pair of a parent from s on and its child is in order. -/
def HeapFrom (s n : Nat) (h : Nat → Ev) : Prop := ∀ c, 0 < c → c < n → s ≤ (c - 1) / 2 → ¬ L (h c) (h ((c - 1) / 2))

/-- .. but the children of k, which are in order with k's own parent. -/
structure SiftDown (s n : Nat) (h : Nat → Ev) (k : Nat) : Prop where
  ge : s ≤ k
  others : ∀ c, 0 < c → c < n → s ≤ (c - 1) / 2 → (c - 1) / 2 ≠ k → ¬ L (h c) (h ((c - 1) / 2))
  grand : ∀ c, 0 < c → c < n → (c - 1) / 2 = k → 0 < k → s ≤ (k - 1) / 2 → ¬ L (h c) (h ((k - 1) / 2))

theorem pick_spec (n : Nat) (h : Nat → Ev) (k : Nat) :
    (pick n h k = k ∧ ∀ c, 0 < c → c < n → (c - 1) / 2 = k → ¬ L (h c) (h k)) ∨
    (∃ j, pick n h k = j ∧ 0 < j ∧ j < n ∧ (j - 1) / 2 = k ∧ L (h j) (h k) ∧ ∀ c, 0 < c → c < n → (c - 1) / 2 = k → c ≠ j → ¬ L (h c) (h j)) := by
  by_cases hc1 : 2 * k + 1 < n
  · cases hv1 : bef (h (2 * k + 1)) (h k) with
    | true =>
      have l1 := bef_true.1 hv1
      by_cases hc2 : 2 * k + 2 < n
      · cases hv2 : bef (h (2 * k + 2)) (h (2 * k + 1)) with
        | true =>
          have l2 := bef_true.1 hv2
          refine .inr ⟨2 * k + 2, pick_11 hc1 hc2 hv1 hv2, by omega, by omega, by omega, L_trans l2 l1, fun c h0 hn hp hne => ?_⟩
          obtain rfl : c = 2 * k + 1 := by omega
          exact L_asymm l2
        | false =>
          refine .inr ⟨2 * k + 1, pick_10 hc1 hv1 (fun _ => hv2), by omega, by omega, by omega, l1, fun c h0 hn hp hne => ?_⟩
          obtain rfl : c = 2 * k + 2 := by omega
          exact bef_false.1 hv2
      · refine .inr ⟨2 * k + 1, pick_10 hc1 hv1 (fun x => absurd x hc2), by omega, by omega, by omega, l1, fun c h0 hn hp hne => ?_⟩
        omega
    | false =>
      have l1 := bef_false.1 hv1
      by_cases hc2 : 2 * k + 2 < n
      · cases hv2 : bef (h (2 * k + 2)) (h k) with
        | true =>
          have l2 := bef_true.1 hv2
          refine .inr ⟨2 * k + 2, pick_01 hc2 hv1 hv2, by omega, by omega, by omega, l2, fun c h0 hn hp hne => ?_⟩
          obtain rfl : c = 2 * k + 1 := by omega
          exact fun x => l1 (L_trans x l2)
        | false =>
          refine .inl ⟨pick_00 hv1 (fun _ => hv2), fun c h0 hn hp => ?_⟩
          have hc : c = 2 * k + 1 ∨ c = 2 * k + 2 := by omega
          rcases hc with rfl | rfl
          · exact l1
          · exact bef_false.1 hv2
      · refine .inl ⟨pick_00 hv1 (fun x => absurd x hc2), fun c h0 hn hp => ?_⟩
        obtain rfl : c = 2 * k + 1 := by omega
        exact l1
  · refine .inl ⟨pick_none hc1, fun c h0 hn hp => ?_⟩
    omega

theorem SiftDown.step {s n : Nat} {h : Nat → Ev} {k j : Nat} (H : SiftDown s n h k) (h0 : 0 < j) (hjn : j < n) (hp : (j - 1) / 2 = k) (hl : L (h j) (h k)) (ho : ∀ c, 0 < c → c < n → (c - 1) / 2 = k → c ≠ j → ¬ L (h c) (h j)) :
    SiftDown s n (swp h k j) j := by
  have hkj : k ≠ j := by omega
  refine ⟨by have := H.ge; omega, fun c c0 cn cs cp => ?_, fun c c0 cn cp _ _ => ?_⟩
  · by_cases ck : c = k
    · subst ck
      rw [swp_i h hkj, swp_o h (by omega) (by omega)]
      exact H.grand j h0 hjn hp c0 cs
    · by_cases cpk : (c - 1) / 2 = k
      · rw [cpk, swp_i h hkj]
        by_cases cj : c = j
        · subst cj; rw [swp_j]; exact L_asymm hl
        · rw [swp_o h ck cj]; exact ho c c0 cn cpk cj
      · have cj : c ≠ j := fun e => cpk (by rw [e]; exact hp)
        rw [swp_o h ck cj, swp_o h cpk cp]
        exact H.others c c0 cn cs cpk
  · rw [hp, swp_i h hkj]
    rw [swp_o h (by omega) (by omega)]
    have := H.others c c0 cn (by rw [cp]; have := H.ge; omega) (by rw [cp]; omega)
    rwa [cp] at this

theorem SiftDown.done {s n : Nat} {h : Nat → Ev} {k : Nat} (H : SiftDown s n h k) (hc : ∀ c, 0 < c → c < n → (c - 1) / 2 = k → ¬ L (h c) (h k)) : HeapFrom s n h := fun c c0 cn cs => by
  by_cases hp : (c - 1) / 2 = k
  · rw [hp]; exact hc c c0 cn hp
  · exact H.others c c0 cn cs hp

theorem downF_heap {s n : Nat} : ∀ (f : Nat) (h : Nat → Ev) (k : Nat), n - k < f → SiftDown s n h k → HeapFrom s n (downF n f k h)
  | 0, h, k, hf, _ => absurd hf (Nat.not_lt_zero _)
  | f + 1, h, k, hf, H => by
    rcases pick_spec n h k with ⟨hp, hc⟩ | ⟨j, hp, h0, hjn, hpar, hl, ho⟩
    · rw [downF, if_pos hp]; exact H.done hc
    · rw [downF, hp, if_neg (by omega)]
      exact downF_heap f _ j (by omega) (H.step h0 hjn hpar hl ho)

theorem down_heap {s n : Nat} {h : Nat → Ev} (H : HeapFrom (s + 1) n h) : HeapFrom s n (downF n (n + 1) s h) :=
  downF_heap _ _ _ (by omega) ⟨Nat.le_refl _, fun c c0 cn cs cp => H c c0 cn (by omega), fun c c0 cn cp k0 ks => by omega⟩

theorem initF_heap {n : Nat} : ∀ (k : Nat) (h : Nat → Ev), HeapFrom k n h → HeapFrom 0 n (initF n k h)
  | 0, h, H => H
  | k + 1, h, H => initF_heap k _ (down_heap H)
theorem init_heap (n : Nat) (h : Nat → Ev) : HeapFrom 0 n (initF n (n / 2) h) := initF_heap _ _ fun c c0 cn cs => by omega

theorem heap_root {n : Nat} {h : Nat → Ev} (H : HeapFrom 0 n h) : ∀ (f i : Nat), i < f → i < n → ¬ L (h i) (h 0)
  | 0, i, hf, _ => absurd hf (Nat.not_lt_zero _)
  | f + 1, i, hf, hi => by
    by_cases h0 : i = 0
    · subst h0; unfold L; omega
    · exact L_neg (H i (by omega) hi (Nat.zero_le _)) (heap_root H f ((i - 1) / 2) (by omega) (by omega))

theorem pop_heap {m : Nat} {h : Nat → Ev} (H : HeapFrom 0 (m + 1) h) : HeapFrom 0 m (popF m h) := by
  refine down_heap fun c c0 cn cs => ?_
  rw [upd_other _ _ (by omega), upd_other _ _ (by omega), upd_other _ _ (by omega), upd_other _ _ (by omega)]
  exact H c c0 (by omega) (Nat.zero_le _)

/-- The pairs are in order but k with its parent; k's children are in order with k's parent. -/
structure SiftUp (n : Nat) (h : Nat → Ev) (k : Nat) : Prop where
  lt : k < n
  others : ∀ c, 0 < c → c < n → c ≠ k → ¬ L (h c) (h ((c - 1) / 2))
  grand : ∀ c, 0 < c → c < n → (c - 1) / 2 = k → 0 < k → ¬ L (h c) (h ((k - 1) / 2))

theorem SiftUp.step {n : Nat} {h : Nat → Ev} {k : Nat} (H : SiftUp n h k) (hk : 0 < k) (hl : L (h k) (h ((k - 1) / 2))) : SiftUp n (swp h k ((k - 1) / 2)) ((k - 1) / 2) := by
  obtain ⟨p, hp⟩ : ∃ p, p = (k - 1) / 2 := ⟨_, rfl⟩
  rw [← hp] at hl ⊢
  have hkp : k ≠ p := by omega
  have hlt := H.lt
  refine ⟨by omega, fun c c0 cn cp => ?_, fun c c0 cn cp p0 => ?_⟩
  · by_cases ck : c = k
    · subst ck; rw [swp_i h hkp, ← hp, swp_j]; exact L_asymm hl
    · rw [swp_o h ck cp]
      by_cases h1 : (c - 1) / 2 = k
      · rw [h1, swp_i h hkp]
        have := H.grand c c0 cn h1 hk
        rwa [← hp] at this
      · by_cases h2 : (c - 1) / 2 = p
        · rw [h2, swp_j]
          have := H.others c c0 cn ck
          rw [h2] at this
          exact fun x => this (L_trans x hl)
        · rw [swp_o h h1 h2]; exact H.others c c0 cn ck
  · have hg := H.others p p0 (by omega) (by omega)
    rw [swp_o h (show (p - 1) / 2 ≠ k by omega) (show (p - 1) / 2 ≠ p by omega)]
    by_cases ck : c = k
    · subst ck; rw [swp_i h hkp]; exact hg
    · rw [swp_o h ck (by omega)]
      have := H.others c c0 cn ck
      rw [cp] at this
      exact L_neg this hg

theorem upF_heap {n : Nat} : ∀ (f : Nat) (h : Nat → Ev) (k : Nat), k < f → SiftUp n h k → HeapFrom 0 n (upF f k h)
  | 0, h, k, hf, _ => absurd hf (Nat.not_lt_zero _)
  | f + 1, h, k, hf, H => by
    by_cases h0 : k = 0
    · rw [upF, if_pos h0]
      exact fun c c0 cn _ => H.others c c0 cn (by omega)
    · rw [upF, if_neg h0]
      cases hv : bef (h k) (h ((k - 1) / 2)) with
      | true => rw [if_pos rfl]; exact upF_heap f _ _ (by omega) (H.step (by omega) (bef_true.1 hv))
      | false =>
        rw [if_neg (by simp)]
        intro c c0 cn _
        by_cases ck : c = k
        · subst ck; exact bef_false.1 hv
        · exact H.others c c0 cn ck
theorem push_heap {n : Nat} {h : Nat → Ev} (e : Ev) (H : HeapFrom 0 n h) : HeapFrom 0 (n + 1) (pushF n h e) := by
  refine upF_heap _ _ _ (by omega) ⟨by omega, fun c c0 cn ck => ?_, fun c c0 cn cp k0 => by omega⟩
  rw [upd_other _ _ ck, upd_other _ _ (by omega)]
  exact H c c0 (by omega) (Nat.zero_le _)

/-- h' is h's first n events in another order. -/
def Perm (n : Nat) (h h' : Nat → Ev) : Prop := ∃ σ τ : Nat → Nat, ∀ i, i < n → σ i < n ∧ τ i < n ∧ σ (τ i) = i ∧ τ (σ i) = i ∧ h' i = h (σ i)
theorem Perm.refl (n : Nat) (h : Nat → Ev) : Perm n h h := ⟨id, id, fun i hi => ⟨hi, hi, rfl, rfl, rfl⟩⟩
theorem Perm.trans {n : Nat} {a b c : Nat → Ev} (H : Perm n a b) (K : Perm n b c) : Perm n a c := by
  obtain ⟨σ, τ, h⟩ := H
  obtain ⟨σ', τ', k⟩ := K
  refine ⟨fun i => σ (σ' i), fun i => τ' (τ i), fun i hi => ?_⟩
  obtain ⟨k1, k2, k3, k4, k5⟩ := k i hi
  obtain ⟨h1, h2, h3, h4, h5⟩ := h i hi
  obtain ⟨_, _, _, h4', h5'⟩ := h (σ' i) k1
  obtain ⟨_, k2', k3', _, _⟩ := k (τ i) h2
  refine ⟨(h (σ' i) k1).1, k2', ?_, ?_, ?_⟩
  · show σ (σ' (τ' (τ i))) = i; rw [k3', h3]
  · show τ' (τ (σ (σ' i))) = i; rw [h4', k4]
  · rw [k5, h5']
theorem Perm.swap {n i j : Nat} (h : Nat → Ev) (hi : i < n) (hj : j < n) (hij : i ≠ j) : Perm n h (swp h i j) := by
  refine ⟨fun k => if k = i then j else if k = j then i else k, fun k => if k = i then j else if k = j then i else k, fun k hk => ?_⟩
  by_cases h1 : k = i
  · subst h1; simp [hj, swp_i h hij, Ne.symm hij]
  · by_cases h2 : k = j
    · subst h2; simp [hi, h1, swp_j]
    · simp [h1, h2, hk, swp_o h h1 h2]

theorem downF_perm {n : Nat} : ∀ (f : Nat) (h : Nat → Ev) (k : Nat), Perm n h (downF n f k h)
  | 0, h, _ => Perm.refl n h
  | f + 1, h, k => by
    rcases pick_spec n h k with ⟨hp, _⟩ | ⟨j, hp, h0, hjn, hpar, _⟩
    · rw [downF, if_pos hp]; exact Perm.refl n h
    · rw [downF, hp, if_neg (by omega)]
      exact (Perm.swap h (by omega) hjn (by omega)).trans (downF_perm f _ j)
theorem initF_perm {n : Nat} : ∀ (k : Nat) (h : Nat → Ev), Perm n h (initF n k h)
  | 0, h => Perm.refl n h
  | k + 1, h => (downF_perm _ h k).trans (initF_perm k _)
theorem upF_perm {n : Nat} : ∀ (f : Nat) (h : Nat → Ev) (k : Nat), k < n → Perm n h (upF f k h)
  | 0, h, _, _ => Perm.refl n h
  | f + 1, h, k, hk => by
    by_cases h0 : k = 0
    · rw [upF, if_pos h0]; exact Perm.refl n h
    · rw [upF, if_neg h0]
      cases hv : bef (h k) (h ((k - 1) / 2)) with
      | true => rw [if_pos rfl]; exact (Perm.swap h hk (by omega) (by omega)).trans (upF_perm f _ _ (by omega))
      | false => rw [if_neg (by simp)]; exact Perm.refl n h
end Go.Proofs.Ybulkddry
