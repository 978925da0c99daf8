import Derived.Test.YbulkddryHBase
namespace Go.Proofs.Ybulkddry
open Go.RowKit

/-- Of the blocks of w only those in S may have turned in w'. -/
structure But (S : List Nat) (w w' : World) : Prop where
  os : w'.os = w.os
  tape : w'.tape = w.tape
  output : w'.output = w.output
  size : w.heap.size ≤ w'.heap.size
  block : ∀ k, k < w.heap.size → ¬ k ∈ S → w'.heap[k]? = w.heap[k]?

theorem But.refl (S : List Nat) (w : World) : But S w w := ⟨rfl, rfl, rfl, Nat.le_refl _, fun _ _ _ => rfl⟩
theorem But.trans {S : List Nat} {a b c : World} (h : But S a b) (k : But S b c) : But S a c :=
  ⟨k.os.trans h.os, k.tape.trans h.tape, k.output.trans h.output, Nat.le_trans h.size k.size, fun i hi hn => (k.block i (Nat.lt_of_lt_of_le hi h.size) hn).trans (h.block i hi hn)⟩
theorem But.of_below {S : List Nat} {w w' : World} (h : Below w.heap.size w w') : But S w w' := ⟨h.os, h.tape, h.output, h.size, fun k hk _ => h.block k hk⟩
theorem But.below {S : List Nat} {a w w' : World} (h : But S a w) (k : Below w.heap.size w w') : But S a w' := h.trans (.of_below k)
theorem But.alloc {S : List Nat} {a w : World} (h : But S a w) (o : Obj) : But S a (w.alloc o) := h.below ((Below.refl _ _).alloc (Nat.le_refl _) o)
theorem But.drew {S : List Nat} {a w : World} (h : But S a w) : But S a w.drew := h.below ((Below.refl _ _).drew)
theorem But.drewN {S : List Nat} {a w : World} (h : But S a w) (n : Nat) : But S a (w.drewN n) := h.below (below_drewN (Below.refl _ _) n)
theorem But.setCell {S : List Nat} {a w : World} (h : But S a w) {p : Addr} (hp : p.block ∈ S ∨ a.heap.size ≤ p.block) (v : Value) : But S a (w.setCell p v) :=
  ⟨h.os, h.tape, h.output, by simpa using h.size, fun k hk hn => by
    rw [Below.heap_setCell _ _ _ _ (by rintro rfl; rcases hp with hp | hp; exact hn hp; omega)]; exact h.block k hk hn⟩
theorem But.mono {S S' : List Nat} {w w' : World} (h : But S w w') (hs : ∀ x, x ∈ S → x ∈ S') : But S' w w' := ⟨h.os, h.tape, h.output, h.size, fun k hk hn => h.block k hk (fun hx => hn (hs k hx))⟩
theorem But.put {S : List Nat} {a w : World} (h : But S a w) {b : Nat} (hb : b ∈ S ∨ a.heap.size ≤ b) (i : Nat) (e : Ev) : But S a (putEv w b i e) :=
  ((((((h.setCell hb _).setCell hb _).setCell hb _).setCell hb _).setCell hb _).setCell hb _).setCell hb _
theorem But.toBelow {S : List Nat} {w w' : World} {B : Nat} (h : But S w w') (hB : B ≤ w.heap.size) (hs : ∀ x, x ∈ S → B ≤ x) : Below B w w' :=
  ⟨h.os, h.tape, h.output, h.size, fun k hk => h.block k (by omega) (fun hx => by have := hs k hx; omega)⟩

def swp (h : Nat → Ev) (i j : Nat) : Nat → Ev := upd (upd h i (h j)) j (h i)
/-- Which of i and its children comes first. -/
def pick (n : Nat) (h : Nat → Ev) (i : Nat) : Nat :=
  let f := if 2 * i + 1 < n ∧ bef (h (2 * i + 1)) (h i) = true then 2 * i + 1 else i
  if 2 * i + 2 < n ∧ bef (h (2 * i + 2)) (h f) = true then 2 * i + 2 else f
/-- What 'down' leaves. -/
def downF (n : Nat) : Nat → Nat → (Nat → Ev) → (Nat → Ev)
  | 0, _, h => h
  | f + 1, i, h => if pick n h i = i then h else downF n f (pick n h i) (swp h i (pick n h i))

theorem pick_none {n i : Nat} {h : Nat → Ev} (hc : ¬ 2 * i + 1 < n) : pick n h i = i := by
  unfold pick; simp only []; rw [if_neg (fun x : 2 * i + 1 < n ∧ _ => hc x.1), if_neg (fun x => hc (by have := x.1; omega))]
theorem pick_11 {n i : Nat} {h : Nat → Ev} (hc1 : 2 * i + 1 < n) (hc2 : 2 * i + 2 < n) (h1 : bef (h (2 * i + 1)) (h i) = true) (h2 : bef (h (2 * i + 2)) (h (2 * i + 1)) = true) : pick n h i = 2 * i + 2 := by
  unfold pick; simp only []; rw [if_pos (show 2 * i + 1 < n ∧ _ from ⟨hc1, h1⟩), if_pos ⟨hc2, h2⟩]
theorem pick_10 {n i : Nat} {h : Nat → Ev} (hc1 : 2 * i + 1 < n) (h1 : bef (h (2 * i + 1)) (h i) = true) (h2 : 2 * i + 2 < n → bef (h (2 * i + 2)) (h (2 * i + 1)) = false) : pick n h i = 2 * i + 1 := by
  unfold pick; simp only []; rw [if_pos (show 2 * i + 1 < n ∧ _ from ⟨hc1, h1⟩), if_neg (fun x => by rw [h2 x.1] at x; exact Bool.noConfusion x.2)]
theorem pick_01 {n i : Nat} {h : Nat → Ev} (hc2 : 2 * i + 2 < n) (h1 : bef (h (2 * i + 1)) (h i) = false) (h2 : bef (h (2 * i + 2)) (h i) = true) : pick n h i = 2 * i + 2 := by
  unfold pick; simp only []; rw [if_neg (fun x : 2 * i + 1 < n ∧ _ => by rw [h1] at x; exact Bool.noConfusion x.2), if_pos ⟨hc2, h2⟩]
theorem pick_00 {n i : Nat} {h : Nat → Ev} (h1 : bef (h (2 * i + 1)) (h i) = false) (h2 : 2 * i + 2 < n → bef (h (2 * i + 2)) (h i) = false) : pick n h i = i := by
  unfold pick; simp only []; rw [if_neg (fun x : 2 * i + 1 < n ∧ _ => by rw [h1] at x; exact Bool.noConfusion x.2), if_neg (fun x => by rw [h2 x.1] at x; exact Bool.noConfusion x.2)]

theorem downF_stop {n f i : Nat} {h g : Nat → Ev} (hp : pick n h i = i) (hg : downF n f i h = g) : h = g := by
  cases f with
  | zero => exact hg
  | succ f => simpa [downF, hp] using hg
theorem downF_step {n f i j : Nat} {h g : Nat → Ev} (hf : n - i < f) (hp : pick n h i = j) (hj : j ≠ i) (hij : i < j) (hn : i ≤ n) (hjn : j < n) (hg : downF n f i h = g) : ∃ f', n - j < f' ∧ downF n f' j (swp h i j) = g := by
  cases f with
  | zero => omega
  | succ f =>
    refine ⟨f, by omega, ?_⟩
    rw [downF, hp, if_neg hj] at hg
    exact hg

theorem Holds.drewN {w : World} {b N : Nat} {h : Nat → Ev} (H : Holds w b N h) (n : Nat) : Holds (w.drewN n) b N h := H

theorem before_at (b N n cap i j : Nat) (h : Nat → Ev) (w : World) (ci cj : Int) (H : Holds w b N h) (hci : ci = i) (hcj : cj = j) (hi : i < n) (hj : j < n) (hn : n ≤ N) :
    Calls Yba.prog 13 #[.slice (some ⟨b, 0, none⟩) n cap, .int .i64 ci, .int .i64 cj] w fun e w' => e = .returned (.bool (bef (h i) (h j))) ∧ ∃ nq, w' = w.drewN nq := by
  subst hci hcj; exact before_any b N n cap i j h w H hi hj hn

/-- The exchange of two events. -/
def swapW (w : World) (b i j : Nat) (h : Nat → Ev) : World := (putEv (putEv w b i (h j)) b j (h i)).drew
theorem Holds.drew {w : World} {b N : Nat} {h : Nat → Ev} (H : Holds w b N h) : Holds w.drew b N h := H
theorem Holds.swap {w : World} {b N i j : Nat} {h : Nat → Ev} (H : Holds w b N h) : Holds (swapW w b i j h) b N (swp h i j) := by
  unfold swapW swp
  exact ((H.put i (h j)).put j (h i)).drew
theorem But.swap {S : List Nat} {a w : World} (hb : But S a w) {b : Nat} (hm : b ∈ S) (i j : Nat) (h : Nat → Ev) : But S a (swapW w b i j h) := by
  unfold swapW
  exact ((hb.put (.inl hm) i (h j)).put (.inl hm) j (h i)).drew

set_option maxHeartbeats 3200000 in
theorem down_any (b N n cap i : Nat) (h : Nat → Ev) (w : World) (H : Holds w b N h) (hn : n ≤ N) (hN : n ≤ 1024) (hi : i ≤ n) :
    Calls Yba.prog 14 #[.slice (some ⟨b, 0, none⟩) n cap, .int .i64 i] w fun e w' => e = .returned (.tuple #[]) ∧ Holds w' b N (downF n (n + 1) i h) ∧ But [b] w w' := by
  obtain ⟨g, hg⟩ : ∃ g, Hid (downF n (n + 1) i h = g) := ⟨_, rfl⟩
  go_enter Yba.func14, Yba.ntmps14
  go_wp2_with fail
  go_loopw [1] (fun v wr => ∃ (f k : Nat) (h' : Nat → Ev), v = .int .i64 k ∧ k ≤ n ∧ Hid (n - k < f) ∧ Hid (downF n f k h' = g) ∧ Holds wr b N h' ∧ But [b] w wr) (fun v _ => n - (intOf v).toNat)
  case atStart => exact ⟨n + 1, i, h, rfl, hi, by show _ < _; omega, hg, H, But.refl _ _⟩
  case round =>
    obtain ⟨f, k, h', rfl, hk, hf, hd, Hr, hb⟩ := hrel
    by_cases hc1 : 2 * k + 1 < n
    · go_wp2_with fail
      refine (before_at b N n cap (2 * k + 1) k h' wr _ _ Hr (by omega) (by omega) (by omega) (by omega) hn).mono ?_
      rintro e w1 ⟨rfl, nq, rfl⟩
      have Hr1 := Hr.drewN nq
      have hb1 := hb.drewN nq
      generalize wr.drewN nq = w1 at *
      cases hv1 : bef (h' (2 * k + 1)) (h' k) with
      | true =>
        have V1 : Hid (bef (h' (2 * k + 1)) (h' k) = true) := hv1
        clear hv1
        by_cases hc2 : 2 * k + 2 < n
        · go_wp2_with fail
          refine (before_at b N n cap (2 * k + 2) (2 * k + 1) h' w1 _ _ Hr1 (by omega) (by omega) (by omega) (by omega) hn).mono ?_
          rintro e w2 ⟨rfl, nq2, rfl⟩
          have Hr2 := Hr1.drewN nq2
          have hb2 := hb1.drewN nq2
          generalize w1.drewN nq2 = w2 at *
          cases hv2 : bef (h' (2 * k + 2)) (h' (2 * k + 1)) with
          | true =>
            have V2 : Hid (bef (h' (2 * k + 2)) (h' (2 * k + 1)) = true) := hv2
            clear hv2
            have pk : Hid (pick n h' k = 2 * k + 2) := pick_11 hc1 hc2 V1.out V2.out
            rw [show (2 * (k : Int) + 2) = ((2 * k + 2 : Nat) : Int) from by omega]
            have kj : k < 2 * k + 2 := by omega
            have jn : 2 * k + 2 < n := by omega
            clear V1 V2 hc1 hc2
            generalize 2 * k + 2 = j at *
            have hne : ((j : Int) == (k : Int)) = false := by simp; omega
            have a0 := Hr2.cell0 (i := k) (by omega); have a1 := Hr2.cell1 (i := k) (by omega); have a2 := Hr2.cell2 (i := k) (by omega); have a3 := Hr2.cell3 (i := k) (by omega); have a4 := Hr2.cell4 (i := k) (by omega); have a5 := Hr2.cell5 (i := k) (by omega); have a6 := Hr2.cell6 (i := k) (by omega)
            have b0 := Hr2.cell0 (i := j) (by omega); have b1 := Hr2.cell1 (i := j) (by omega); have b2 := Hr2.cell2 (i := j) (by omega); have b3 := Hr2.cell3 (i := j) (by omega); have b4 := Hr2.cell4 (i := j) (by omega); have b5 := Hr2.cell5 (i := j) (by omega); have b6 := Hr2.cell6 (i := j) (by omega)
            have z0 := rowLe.frozen Hr2 (k * 7); have z1 := rowLe.frozen Hr2 (k * 7 + 1); have z2 := rowLe.frozen Hr2 (k * 7 + 2); have z3 := rowLe.frozen Hr2 (k * 7 + 3); have z4 := rowLe.frozen Hr2 (k * 7 + 4); have z5 := rowLe.frozen Hr2 (k * 7 + 5); have z6 := rowLe.frozen Hr2 (k * 7 + 6)
            have y0 := rowLe.frozen Hr2 (j * 7); have y1 := rowLe.frozen Hr2 (j * 7 + 1); have y2 := rowLe.frozen Hr2 (j * 7 + 2); have y3 := rowLe.frozen Hr2 (j * 7 + 3); have y4 := rowLe.frozen Hr2 (j * 7 + 4); have y5 := rowLe.frozen Hr2 (j * 7 + 5); have y6 := rowLe.frozen Hr2 (j * 7 + 6)
            go_wp2_with fail
            go_region
            go_wp2_with fail
            obtain ⟨f', hf', hd'⟩ := downF_step hf.out pk.out (by omega) kj hk jn hd.out
            exact ⟨⟨f', j, swp h' k j, rfl, by omega, hf', hd', Holds.swap Hr2, But.swap hb2 (by simp) k j h'⟩, by simp [intOf]; omega⟩
          | false =>
            have V2 : Hid (bef (h' (2 * k + 2)) (h' (2 * k + 1)) = false) := hv2
            clear hv2
            have pk : Hid (pick n h' k = 2 * k + 1) := pick_10 hc1 V1.out (fun _ => V2.out)
            rw [show (2 * (k : Int) + 1) = ((2 * k + 1 : Nat) : Int) from by omega]
            have kj : k < 2 * k + 1 := by omega
            have jn : 2 * k + 1 < n := by omega
            clear V1 V2 hc1 hc2
            generalize 2 * k + 1 = j at *
            have hne : ((j : Int) == (k : Int)) = false := by simp; omega
            have a0 := Hr2.cell0 (i := k) (by omega); have a1 := Hr2.cell1 (i := k) (by omega); have a2 := Hr2.cell2 (i := k) (by omega); have a3 := Hr2.cell3 (i := k) (by omega); have a4 := Hr2.cell4 (i := k) (by omega); have a5 := Hr2.cell5 (i := k) (by omega); have a6 := Hr2.cell6 (i := k) (by omega)
            have b0 := Hr2.cell0 (i := j) (by omega); have b1 := Hr2.cell1 (i := j) (by omega); have b2 := Hr2.cell2 (i := j) (by omega); have b3 := Hr2.cell3 (i := j) (by omega); have b4 := Hr2.cell4 (i := j) (by omega); have b5 := Hr2.cell5 (i := j) (by omega); have b6 := Hr2.cell6 (i := j) (by omega)
            have z0 := rowLe.frozen Hr2 (k * 7); have z1 := rowLe.frozen Hr2 (k * 7 + 1); have z2 := rowLe.frozen Hr2 (k * 7 + 2); have z3 := rowLe.frozen Hr2 (k * 7 + 3); have z4 := rowLe.frozen Hr2 (k * 7 + 4); have z5 := rowLe.frozen Hr2 (k * 7 + 5); have z6 := rowLe.frozen Hr2 (k * 7 + 6)
            have y0 := rowLe.frozen Hr2 (j * 7); have y1 := rowLe.frozen Hr2 (j * 7 + 1); have y2 := rowLe.frozen Hr2 (j * 7 + 2); have y3 := rowLe.frozen Hr2 (j * 7 + 3); have y4 := rowLe.frozen Hr2 (j * 7 + 4); have y5 := rowLe.frozen Hr2 (j * 7 + 5); have y6 := rowLe.frozen Hr2 (j * 7 + 6)
            go_wp2_with fail
            go_region
            go_wp2_with fail
            obtain ⟨f', hf', hd'⟩ := downF_step hf.out pk.out (by omega) kj hk jn hd.out
            exact ⟨⟨f', j, swp h' k j, rfl, by omega, hf', hd', Holds.swap Hr2, But.swap hb2 (by simp) k j h'⟩, by simp [intOf]; omega⟩
        · have pk : Hid (pick n h' k = 2 * k + 1) := pick_10 hc1 V1.out (fun x => absurd x hc2)
          rw [show (2 * (k : Int) + 1) = ((2 * k + 1 : Nat) : Int) from by omega]
          have kj : k < 2 * k + 1 := by omega
          have jn : 2 * k + 1 < n := by omega
          clear V1 hc1
          generalize 2 * k + 1 = j at *
          have hne : ((j : Int) == (k : Int)) = false := by simp; omega
          have a0 := Hr1.cell0 (i := k) (by omega); have a1 := Hr1.cell1 (i := k) (by omega); have a2 := Hr1.cell2 (i := k) (by omega); have a3 := Hr1.cell3 (i := k) (by omega); have a4 := Hr1.cell4 (i := k) (by omega); have a5 := Hr1.cell5 (i := k) (by omega); have a6 := Hr1.cell6 (i := k) (by omega)
          have b0 := Hr1.cell0 (i := j) (by omega); have b1 := Hr1.cell1 (i := j) (by omega); have b2 := Hr1.cell2 (i := j) (by omega); have b3 := Hr1.cell3 (i := j) (by omega); have b4 := Hr1.cell4 (i := j) (by omega); have b5 := Hr1.cell5 (i := j) (by omega); have b6 := Hr1.cell6 (i := j) (by omega)
          have z0 := rowLe.frozen Hr1 (k * 7); have z1 := rowLe.frozen Hr1 (k * 7 + 1); have z2 := rowLe.frozen Hr1 (k * 7 + 2); have z3 := rowLe.frozen Hr1 (k * 7 + 3); have z4 := rowLe.frozen Hr1 (k * 7 + 4); have z5 := rowLe.frozen Hr1 (k * 7 + 5); have z6 := rowLe.frozen Hr1 (k * 7 + 6)
          have y0 := rowLe.frozen Hr1 (j * 7); have y1 := rowLe.frozen Hr1 (j * 7 + 1); have y2 := rowLe.frozen Hr1 (j * 7 + 2); have y3 := rowLe.frozen Hr1 (j * 7 + 3); have y4 := rowLe.frozen Hr1 (j * 7 + 4); have y5 := rowLe.frozen Hr1 (j * 7 + 5); have y6 := rowLe.frozen Hr1 (j * 7 + 6)
          go_wp2_with fail
          go_region
          go_wp2_with fail
          obtain ⟨f', hf', hd'⟩ := downF_step hf.out pk.out (by omega) kj hk jn hd.out
          exact ⟨⟨f', j, swp h' k j, rfl, by omega, hf', hd', Holds.swap Hr1, But.swap hb1 (by simp) k j h'⟩, by simp [intOf]; omega⟩
      | false =>
        have V1 : Hid (bef (h' (2 * k + 1)) (h' k) = false) := hv1
        clear hv1
        by_cases hc2 : 2 * k + 2 < n
        · go_wp2_with fail
          refine (before_at b N n cap (2 * k + 2) k h' w1 _ _ Hr1 (by omega) (by omega) (by omega) (by omega) hn).mono ?_
          rintro e w2 ⟨rfl, nq2, rfl⟩
          have Hr2 := Hr1.drewN nq2
          have hb2 := hb1.drewN nq2
          generalize w1.drewN nq2 = w2 at *
          cases hv2 : bef (h' (2 * k + 2)) (h' k) with
          | true =>
            have V2 : Hid (bef (h' (2 * k + 2)) (h' k) = true) := hv2
            clear hv2
            have pk : Hid (pick n h' k = 2 * k + 2) := pick_01 hc2 V1.out V2.out
            rw [show (2 * (k : Int) + 2) = ((2 * k + 2 : Nat) : Int) from by omega]
            have kj : k < 2 * k + 2 := by omega
            have jn : 2 * k + 2 < n := by omega
            clear V1 V2 hc1 hc2
            generalize 2 * k + 2 = j at *
            have hne : ((j : Int) == (k : Int)) = false := by simp; omega
            have a0 := Hr2.cell0 (i := k) (by omega); have a1 := Hr2.cell1 (i := k) (by omega); have a2 := Hr2.cell2 (i := k) (by omega); have a3 := Hr2.cell3 (i := k) (by omega); have a4 := Hr2.cell4 (i := k) (by omega); have a5 := Hr2.cell5 (i := k) (by omega); have a6 := Hr2.cell6 (i := k) (by omega)
            have b0 := Hr2.cell0 (i := j) (by omega); have b1 := Hr2.cell1 (i := j) (by omega); have b2 := Hr2.cell2 (i := j) (by omega); have b3 := Hr2.cell3 (i := j) (by omega); have b4 := Hr2.cell4 (i := j) (by omega); have b5 := Hr2.cell5 (i := j) (by omega); have b6 := Hr2.cell6 (i := j) (by omega)
            have z0 := rowLe.frozen Hr2 (k * 7); have z1 := rowLe.frozen Hr2 (k * 7 + 1); have z2 := rowLe.frozen Hr2 (k * 7 + 2); have z3 := rowLe.frozen Hr2 (k * 7 + 3); have z4 := rowLe.frozen Hr2 (k * 7 + 4); have z5 := rowLe.frozen Hr2 (k * 7 + 5); have z6 := rowLe.frozen Hr2 (k * 7 + 6)
            have y0 := rowLe.frozen Hr2 (j * 7); have y1 := rowLe.frozen Hr2 (j * 7 + 1); have y2 := rowLe.frozen Hr2 (j * 7 + 2); have y3 := rowLe.frozen Hr2 (j * 7 + 3); have y4 := rowLe.frozen Hr2 (j * 7 + 4); have y5 := rowLe.frozen Hr2 (j * 7 + 5); have y6 := rowLe.frozen Hr2 (j * 7 + 6)
            go_wp2_with fail
            go_region
            go_wp2_with fail
            obtain ⟨f', hf', hd'⟩ := downF_step hf.out pk.out (by omega) kj hk jn hd.out
            exact ⟨⟨f', j, swp h' k j, rfl, by omega, hf', hd', Holds.swap Hr2, But.swap hb2 (by simp) k j h'⟩, by simp [intOf]; omega⟩
          | false =>
            have V2 : Hid (bef (h' (2 * k + 2)) (h' k) = false) := hv2
            clear hv2
            go_wp2_with fail
            refine bodyPost_ret (results_none rfl _ _ _) rfl ⟨rfl, ?_, hb2⟩
            rw [hg.out, ← downF_stop (pick_00 V1.out (fun _ => V2.out)) hd.out]
            exact Hr2
        · go_wp2_with fail
          refine bodyPost_ret (results_none rfl _ _ _) rfl ⟨rfl, ?_, hb1⟩
          rw [hg.out, ← downF_stop (pick_00 V1.out (fun x => absurd x hc2)) hd.out]
          exact Hr1
    · go_wp2_with fail
      refine bodyPost_ret (results_none rfl _ _ _) rfl ⟨rfl, ?_, hb⟩
      rw [hg.out, ← downF_stop (pick_none hc1) hd.out]
      exact Hr
end Go.Proofs.Ybulkddry
