import Derived.Test.YbulkddryHLaw
namespace Go.Proofs.Ybulkddry
set_option linter.unusedVariables false

/-- The events that the order law pushes. -/
def evO (za : Nat → Int) (k : Nat) : Ev := ⟨za k, k, false, 0, k, k, 0⟩
/-- The heap behind k pushes. -/
def heapK (za : Nat → Int) : Nat → (Nat → Ev)
  | 0 => fun _ => zeroEv
  | k + 1 => pushF k (heapK za k) (evO za k)
/-- The heap of n events behind k pops. -/
def popK (n : Nat) (za : Nat → Int) : Nat → (Nat → Ev)
  | 0 => heapK za n
  | k + 1 => popF (n - k - 1) (popK n za k)

/-- The order of two indices. -/
def K (za : Nat → Int) (a b : Nat) : Prop := za a < za b ∨ (za a = za b ∧ a < b)
def lessB (za : Nat → Int) (a b : Nat) : Bool := decide (za a < za b) || (decide (za a = za b) && decide (a < b))
theorem lessB_true {za : Nat → Int} {a b : Nat} : lessB za a b = true ↔ K za a b := by simp [lessB, K]
theorem K_L {za : Nat → Int} {a b : Nat} : K za a b ↔ L (evO za a) (evO za b) := by
  unfold K L evO; simp only []; omega

def swo (o : Nat → Nat) (i j : Nat) : Nat → Nat := fun k => if k = j then o i else if k = i then o j else o k
/-- One insertion: the element at j goes down. -/
def insF (za : Nat → Int) : Nat → (Nat → Nat) → (Nat → Nat)
  | 0, o => o
  | j + 1, o => if lessB za (o (j + 1)) (o j) = true then insF za j (swo o (j + 1) j) else o
/-- The insertion sort behind k rounds. -/
def sortF (za : Nat → Int) : Nat → (Nat → Nat)
  | 0 => fun i => i
  | k + 1 => insF za (k + 1) (sortF za k)

/-- o is a one-to-one map of the numbers below n onto themselves. -/
def Bij (n : Nat) (o : Nat → Nat) : Prop := ∃ τ : Nat → Nat, ∀ i, i < n → o i < n ∧ τ i < n ∧ o (τ i) = i ∧ τ (o i) = i
theorem Bij.id (n : Nat) : Bij n (fun i => i) := ⟨fun i => i, fun i hi => ⟨hi, hi, rfl, rfl⟩⟩
theorem Bij.inj {n : Nat} {o : Nat → Nat} (h : Bij n o) {i j : Nat} (hi : i < n) (hj : j < n) (e : o i = o j) : i = j := by
  obtain ⟨τ, h⟩ := h
  rw [← (h i hi).2.2.2, ← (h j hj).2.2.2, e]
theorem Bij.swo {n : Nat} {o : Nat → Nat} (h : Bij n o) {i j : Nat} (hi : i < n) (hj : j < n) (hij : i ≠ j) : Bij n (swo o i j) := by
  have inj := @Bij.inj n o h
  obtain ⟨τ, h⟩ := h
  refine ⟨fun k => if τ k = i then j else if τ k = j then i else τ k, fun k hk => ?_⟩
  obtain ⟨h1, h2, h3, h4⟩ := h k hk
  refine ⟨?_, ?_, ?_, ?_⟩
  · unfold Ybulkddry.swo; split
    · exact (h i hi).1
    · split
      · exact (h j hj).1
      · exact h1
  · show (if τ k = i then j else if τ k = j then i else τ k) < n
    split
    · exact hj
    · split
      · exact hi
      · exact h2
  · show Ybulkddry.swo o i j (if τ k = i then j else if τ k = j then i else τ k) = k
    unfold Ybulkddry.swo
    by_cases a : τ k = i
    · rw [if_pos a, if_pos rfl, ← a, h3]
    · rw [if_neg a]
      by_cases b : τ k = j
      · rw [if_pos b, if_neg hij, if_pos rfl, ← b, h3]
      · rw [if_neg b, if_neg b, if_neg a, h3]
  · show (if τ (Ybulkddry.swo o i j k) = i then j else if τ (Ybulkddry.swo o i j k) = j then i else τ (Ybulkddry.swo o i j k)) = k
    unfold Ybulkddry.swo
    by_cases a : k = j
    · rw [if_pos a, (h i hi).2.2.2, if_pos rfl, a]
    · rw [if_neg a]
      by_cases b : k = i
      · rw [if_pos b, (h j hj).2.2.2, if_neg (Ne.symm hij), if_pos rfl, b]
      · rw [if_neg b, h4, if_neg b, if_neg a]

/-- The first m are sorted. -/
def Sorted (za : Nat → Int) (m : Nat) (o : Nat → Nat) : Prop := ∀ i j, i < j → j < m → K za (o i) (o j)

theorem K_total {za : Nat → Int} {a b : Nat} (h : a ≠ b) (hn : ¬ K za a b) : K za b a := by unfold K at *; omega
theorem K_trans {za : Nat → Int} {a b c : Nat} (h : K za a b) (k : K za b c) : K za a c := by unfold K at *; omega

/-- Sorted below m but for the element at j, which belongs at j or further down. -/
structure Ins1 (za : Nat → Int) (m : Nat) (o : Nat → Nat) (j : Nat) : Prop where
  lt : j < m
  others : ∀ a b, a < b → b < m → a ≠ j → b ≠ j → K za (o a) (o b)
  above : ∀ b, j < b → b < m → K za (o j) (o b)

theorem insF_sorted {za : Nat → Int} {n m : Nat} (hm : m ≤ n) : ∀ (j : Nat) (o : Nat → Nat), Bij n o → Ins1 za m o j → Bij n (insF za j o) ∧ Sorted za m (insF za j o)
  | 0, o, B, I => ⟨B, fun a b ab bm => by
      by_cases a0 : a = 0
      · subst a0; exact I.above b ab bm
      · exact I.others a b ab bm a0 (by omega)⟩
  | j + 1, o, B, I => by
    have hj := I.lt
    rw [insF]
    by_cases hl : lessB za (o (j + 1)) (o j) = true
    · rw [if_pos hl]
      have hK := lessB_true.1 hl
      refine insF_sorted hm j _ (B.swo (by omega) (by omega) (by omega)) ⟨by omega, fun a b ab bm aj bj => ?_, fun b jb bm => ?_⟩
      · unfold swo
        rw [if_neg aj, if_neg bj]
        by_cases a1 : a = j + 1
        · rw [if_pos a1, if_neg (by omega)]
          exact I.others j b (by omega) bm (by omega) (by omega)
        · rw [if_neg a1]
          by_cases b1 : b = j + 1
          · rw [if_pos b1]
            exact I.others a j (by omega) (by omega) a1 (by omega)
          · rw [if_neg b1]
            exact I.others a b ab bm a1 b1
      · unfold swo
        rw [if_pos rfl, if_neg (by omega)]
        by_cases b1 : b = j + 1
        · rw [if_pos b1]; exact hK
        · rw [if_neg b1]; exact I.above b (by omega) bm
    · rw [if_neg hl]
      refine ⟨B, fun a b ab bm => ?_⟩
      have hne : o (j + 1) ≠ o j := fun e => by have := B.inj (by omega) (by omega) e; omega
      have hK : K za (o j) (o (j + 1)) := K_total hne (fun x => hl (lessB_true.2 x))
      by_cases a1 : a = j + 1
      · subst a1; exact I.above b ab bm
      · by_cases b1 : b = j + 1
        · subst b1
          by_cases aj : a = j
          · subst aj; exact hK
          · exact K_trans (I.others a j (by omega) (by omega) a1 (by omega)) hK
        · exact I.others a b ab bm a1 b1

theorem sortF_sorted {za : Nat → Int} {n : Nat} : ∀ k, k < n → Bij n (sortF za k) ∧ Sorted za (k + 1) (sortF za k)
  | 0, hk => ⟨Bij.id n, fun a b ab bm => by omega⟩
  | k + 1, hk => by
    obtain ⟨B, S⟩ := sortF_sorted (n := n) k (by omega)
    exact insF_sorted (by omega) (k + 1) _ B ⟨by omega, fun a b ab bm a1 b1 => S a b ab (by omega), fun b h1 h2 => by omega⟩

theorem heapK_heap (za : Nat → Int) : ∀ k, HeapFrom 0 k (heapK za k)
  | 0 => fun c c0 cn => by omega
  | k + 1 => push_heap _ (heapK_heap za k)

theorem Perm.of_eq {n : Nat} {h g : Nat → Ev} (e : ∀ i, i < n → h i = g i) : Perm n h g := ⟨fun i => i, fun i => i, fun i hi => ⟨hi, hi, rfl, rfl, (e i hi).symm⟩⟩

theorem heapK_perm (za : Nat → Int) : ∀ k, Perm k (evO za) (heapK za k)
  | 0 => ⟨fun i => i, fun i => i, fun i hi => by omega⟩
  | k + 1 => by
    refine Perm.trans ?_ (upF_perm (k + 1) _ k (by omega))
    obtain ⟨σ, τ, h⟩ := heapK_perm za k
    refine ⟨fun i => if i = k then k else σ i, fun i => if i = k then k else τ i, fun i hi => ?_⟩
    by_cases hk : i = k
    · subst hk; simp [upd]
    · obtain ⟨h1, h2, h3, h4, h5⟩ := h i (by omega)
      have n1 : σ i ≠ k := by omega
      have n2 : τ i ≠ k := by omega
      refine ⟨by simp [hk]; omega, by simp [hk]; omega, by simp [hk, n2, h3], by simp [hk, n1, h4], ?_⟩
      rw [upd_other _ _ hk, h5]; simp [hk]

/-- The heap behind k pops holds just the events of the places from k on in the order o. -/
def Left (n : Nat) (za : Nat → Int) (o : Nat → Nat) (k : Nat) (h : Nat → Ev) : Prop :=
  ∃ ρ κ : Nat → Nat, (∀ i, i < n - k → k ≤ ρ i ∧ ρ i < n ∧ κ (ρ i) = i ∧ h i = evO za (o (ρ i))) ∧ ∀ p, k ≤ p → p < n → κ p < n - k ∧ ρ (κ p) = p

theorem left_zero {n : Nat} {za : Nat → Int} {o : Nat → Nat} (B : Bij n o) : Left n za o 0 (heapK za n) := by
  obtain ⟨τ, h⟩ := B
  obtain ⟨σ, σ', k⟩ := heapK_perm za n
  refine ⟨fun i => τ (σ i), fun p => σ' (o p), fun i hi => ?_, fun p _ hp => ?_⟩
  · obtain ⟨k1, k2, k3, k4, k5⟩ := k i (by omega)
    obtain ⟨h1, h2, h3, h4⟩ := h (σ i) k1
    exact ⟨Nat.zero_le _, h2, by show σ' (o (τ (σ i))) = i; rw [h3, k4], by rw [k5, h3]⟩
  · obtain ⟨h1, h2, h3, h4⟩ := h p hp
    obtain ⟨k1, k2, k3, k4, k5⟩ := k (o p) h1
    exact ⟨by omega, by show τ (σ (σ' (o p))) = p; rw [k3, h4]⟩

theorem left_root {n k : Nat} {za : Nat → Int} {o : Nat → Nat} {h : Nat → Ev} (hk : k < n) (S : Sorted za n o) (H : HeapFrom 0 (n - k) h) (Lf : Left n za o k h) : h 0 = evO za (o k) ∧ ∀ ρ κ : Nat → Nat, ((∀ i, i < n - k → k ≤ ρ i ∧ ρ i < n ∧ κ (ρ i) = i ∧ h i = evO za (o (ρ i))) ∧ ∀ p, k ≤ p → p < n → κ p < n - k ∧ ρ (κ p) = p) → ρ 0 = k := by
  have key : ∀ ρ κ : Nat → Nat, ((∀ i, i < n - k → k ≤ ρ i ∧ ρ i < n ∧ κ (ρ i) = i ∧ h i = evO za (o (ρ i))) ∧ ∀ p, k ≤ p → p < n → κ p < n - k ∧ ρ (κ p) = p) → ρ 0 = k := fun ρ κ ⟨h1, h2⟩ => by
    obtain ⟨a1, a2, a3, a4⟩ := h1 0 (by omega)
    obtain ⟨b1, b2⟩ := h2 k (Nat.le_refl _) hk
    have hr := heap_root H (κ k + 1) (κ k) (by omega) b1
    rw [(h1 _ b1).2.2.2, b2, a4] at hr
    by_cases e : ρ 0 = k
    · exact e
    · exact absurd (K_L.1 (S k (ρ 0) (by omega) a2)) hr
  obtain ⟨ρ, κ, hh⟩ := Lf
  refine ⟨?_, key⟩
  have := (hh.1 0 (by omega)).2.2.2
  rwa [key ρ κ hh] at this

theorem left_step {n k : Nat} {za : Nat → Int} {o : Nat → Nat} {h : Nat → Ev} (hk : k < n) (S : Sorted za n o) (H : HeapFrom 0 (n - k) h) (Lf : Left n za o k h) : Left n za o (k + 1) (popF (n - k - 1) h) := by
  obtain ⟨_, key⟩ := left_root hk S H Lf
  obtain ⟨ρ, κ, h1, h2⟩ := Lf
  have r0 := key ρ κ ⟨h1, h2⟩
  obtain ⟨m, hm⟩ : ∃ m, n - k = m + 1 := ⟨n - k - 1, by omega⟩
  rw [hm] at h1 h2
  rw [show n - k - 1 = m by omega]
  obtain ⟨σ, τ, hp⟩ : Perm m (upd (upd h 0 (h m)) m zeroEv) (popF m h) := downF_perm _ _ _
  have base : ∀ i, i < m → upd (upd h 0 (h m)) m zeroEv i = evO za (o (ρ (if i = 0 then m else i))) := fun i hi => by
    rw [upd_other _ _ (by omega)]
    by_cases h0 : i = 0
    · subst h0; rw [upd_same, if_pos rfl]; exact (h1 m (by omega)).2.2.2
    · rw [upd_other _ _ h0, if_neg h0]; exact (h1 i (by omega)).2.2.2
  have back : ∀ p, k + 1 ≤ p → p < n → κ p ≠ 0 := fun p p1 p2 e => by
    have := (h2 p (by omega) p2).2
    rw [e, r0] at this
    omega
  refine ⟨fun i => ρ (if σ i = 0 then m else σ i), fun p => τ (if κ p = m then 0 else κ p), fun i hi => ?_, fun p p1 p2 => ?_⟩
  · obtain ⟨s1, s2, s3, s4, s5⟩ := hp i (by omega)
    have hlt : (if σ i = 0 then m else σ i) < m + 1 := by split <;> omega
    have hne : (if σ i = 0 then m else σ i) ≠ 0 := by split <;> omega
    obtain ⟨a1, a2, a3, a4⟩ := h1 _ hlt
    refine ⟨?_, a2, ?_, by rw [s5, base _ s1]⟩
    · show k + 1 ≤ ρ (if σ i = 0 then m else σ i)
      by_cases e : ρ (if σ i = 0 then m else σ i) = k
      · have b3 := (h1 0 (by omega)).2.2.1
        rw [r0] at b3
        rw [e, b3] at a3
        omega
      · omega
    · show τ (if κ (ρ (if σ i = 0 then m else σ i)) = m then 0 else κ (ρ (if σ i = 0 then m else σ i))) = i
      rw [a3]
      by_cases z : σ i = 0
      · rw [if_pos z, if_pos rfl, ← z, s4]
      · rw [if_neg z, if_neg (by omega), s4]
  · obtain ⟨b1, b2⟩ := h2 p (by omega) p2
    have bn := back p p1 p2
    have hlt : (if κ p = m then 0 else κ p) < m := by split <;> omega
    obtain ⟨s1, s2, s3, s4, s5⟩ := hp _ hlt
    refine ⟨show τ (if κ p = m then 0 else κ p) < n - (k + 1) by omega, ?_⟩
    show ρ (if σ (τ (if κ p = m then 0 else κ p)) = 0 then m else σ (τ (if κ p = m then 0 else κ p))) = p
    rw [s3]
    by_cases z : κ p = m
    · rw [if_pos z, if_pos rfl, ← z, b2]
    · rw [if_neg z, if_neg bn, b2]

theorem order_facts (n : Nat) (za : Nat → Int) : ∀ k, k < n → sortF za (n - 1) k < n ∧ popK n za k 0 = evO za (sortF za (n - 1) k) := by
  intro k hk
  obtain ⟨B, S⟩ := sortF_sorted (za := za) (n := n) (n - 1) (by omega)
  rw [show n - 1 + 1 = n by omega] at S
  have all : ∀ k, k ≤ n → HeapFrom 0 (n - k) (popK n za k) ∧ (k < n → Left n za (sortF za (n - 1)) k (popK n za k)) := by
    intro k
    induction k with
    | zero => exact fun _ => ⟨heapK_heap za n, fun _ => left_zero B⟩
    | succ k ih =>
      intro hk1
      obtain ⟨i1, i2⟩ := ih (by omega)
      have l2 := i2 (by omega)
      refine ⟨?_, fun _ => left_step (by omega) S i1 l2⟩
      have : n - k = (n - k - 1) + 1 := by omega
      rw [this] at i1
      rw [show n - (k + 1) = n - k - 1 by omega]
      exact pop_heap i1
  obtain ⟨a1, a2⟩ := all k (by omega)
  obtain ⟨τ, hb⟩ := B
  exact ⟨(hb k hk).1, (left_root hk S a1 (a2 hk)).1⟩
end Go.Proofs.Ybulkddry
