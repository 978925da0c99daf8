import Derived.Test.YbulkddryHDown
import Derived.Deep.DeepCutAuto
namespace Go.Proofs.Ybulkddry
open Go.RowKit

/-- What 'init' leaves: 'down' at k - 1, .., 0. -/
def initF (n : Nat) : Nat → (Nat → Ev) → (Nat → Ev)
  | 0, h => h
  | k + 1, h => initF n k (downF n (n + 1) k h)

theorem init_any (b N n cap : Nat) (h : Nat → Ev) (w : World) (H : Holds w b N h) (hn : n ≤ N) (hN : n ≤ 1024) :
    Calls Yba.prog 10 #[.slice (some ⟨b, 0, none⟩) n cap] w fun e w' => e = .returned (.tuple #[]) ∧ Holds w' b N (initF n (n / 2) h) ∧ But [b] w w' := by
  obtain ⟨g, hg⟩ : ∃ g, Hid (initF n (n / 2) h = g) := ⟨_, rfl⟩
  go_enter Yba.func10, Yba.ntmps10
  go_wp2_with fail
  go_loopw [2] (fun v wr => ∃ (k : Nat) (h' : Nat → Ev), v = .int .i64 ((k : Int) - 1) ∧ k ≤ n ∧ Hid (initF n k h' = g) ∧ Holds wr b N h' ∧ But [b] w wr) (fun v _ => (intOf v + 1).toNat)
  case atStart =>
    exact ⟨n / 2, h, congrArg (Value.int .i64) (by omega), by omega, hg, H, But.refl _ _⟩
  case round =>
    obtain ⟨k, h', rfl, hk, hd, Hr, hb⟩ := hrel
    cases k with
    | zero =>
      go_wp2_with fail
      refine bodyPost_end (results_none rfl _ _ _) rfl ⟨rfl, ?_, hb⟩
      rw [hg.out, ← hd.out]
      exact Hr
    | succ k =>
      go_wp2_with fail
      refine (down_any b N n cap k h' wr Hr hn hN (by omega)).mono ?_
      rintro e w1 ⟨rfl, H1, b1⟩
      have hb1 := hb.trans b1
      go_wp2_with fail
      exact ⟨⟨k, downF n (n + 1) k h', congrArg (Value.int .i64) (by omega), by omega, hd, H1, hb1⟩, by simp [intOf]⟩

def zeroEv : Ev := ⟨0, 0, false, 0, 0, 0, 0⟩
/-- What 'pop' leaves of m + 1 events. -/
def popF (m : Nat) (h : Nat → Ev) : Nat → Ev := downF m (m + 1) 0 (upd (upd h 0 (h m)) m zeroEv)

theorem Holds.alloc {w : World} {b N : Nat} {h : Nat → Ev} (H : Holds w b N h) (o : Obj) : Holds (w.alloc o) b N h := rowLe.alloc H o
theorem Holds.lt {w : World} {b N : Nat} {h : Nat → Ev} (H : Holds w b N h) : b < w.heap.size := rowLe.lt H
theorem Holds.other {w : World} {b N : Nat} {h : Nat → Ev} (H : Holds w b N h) {a : Addr} (ha : b ≠ a.block) (v : Value) : Holds (w.setCell a v) b N h := rowLe.setOther H ha v

/-- Block b is an unfrozen row of cells c of type T. -/
def At (w : World) (b : Nat) (c : Array Value) (T : TypeId) : Prop := w.heap[b]? = some (.cells c T)
theorem At.cell {w : World} {b : Nat} {c : Array Value} {T : TypeId} (h : At w b c T) (i : Nat) : w.cell? ⟨b, i, none⟩ = c[i]? := by
  unfold At at h; simp [World.cell?, h]
theorem At.frozen {w : World} {b : Nat} {c : Array Value} {T : TypeId} (h : At w b c T) (i : Nat) : w.frozen? ⟨b, i, none⟩ = false := by
  unfold At at h; simp [World.frozen?, h]
theorem At.lt {w : World} {b : Nat} {c : Array Value} {T : TypeId} (h : At w b c T) : b < w.heap.size := by
  unfold At at h; exact (Array.getElem?_eq_some_iff.1 h).1
theorem At.block {w w' : World} {b : Nat} {c : Array Value} {T : TypeId} (h : At w b c T) (e : w'.heap[b]? = w.heap[b]?) : At w' b c T := e.trans h
theorem At.other {w : World} {b : Nat} {c : Array Value} {T : TypeId} (h : At w b c T) {a : Addr} (ha : b ≠ a.block) (v : Value) : At (w.setCell a v) b c T := h.block (Below.heap_setCell _ _ _ _ ha)
theorem At.set {w : World} {b : Nat} {c : Array Value} {T : TypeId} (h : At w b c T) (i : Nat) (v : Value) : At (w.setCell ⟨b, i, none⟩ v) b (c.setIfInBounds i v) T := by
  unfold At at *; simp [World.setCell, Array.getElem?_modify, h]
theorem At.alloc {w : World} {b : Nat} {c : Array Value} {T : TypeId} (h : At w b c T) (o : Obj) : At (w.alloc o) b c T := h.block (Below.heap_alloc _ _ _ h.lt)
theorem At.drewN {w : World} {b : Nat} {c : Array Value} {T : TypeId} (h : At w b c T) (n : Nat) : At (w.drewN n) b c T := h
theorem At.drew {w : World} {b : Nat} {c : Array Value} {T : TypeId} (h : At w b c T) : At w.drew b c T := h
theorem At.new (w : World) (c : Array Value) (T : TypeId) : At (w.alloc (.cells c T)) w.heap.size c T := by
  unfold At; show (w.heap.push _)[w.heap.size]? = _; simp
theorem At.but {S : List Nat} {w w' : World} {b : Nat} {c : Array Value} {T : TypeId} (h : At w b c T) (hb : But S w w') (hn : ¬ b ∈ S) : At w' b c T := h.block (hb.block b h.lt hn)
theorem Holds.but {S : List Nat} {w w' : World} {b N : Nat} {h : Nat → Ev} (H : Holds w b N h) (hb : But S w w') (hn : ¬ b ∈ S) : Holds w' b N h := rowLe.of_block H (hb.block b H.lt hn)
theorem Holds.ne {w : World} {b N b' : Nat} {h : Nat → Ev} {c : Array Value} {T : TypeId} (H : Holds w b N h) (h' : At w b' c T) (ht : T ≠ 28) : b ≠ b' := by
  rintro rfl
  obtain ⟨c0, h0, _⟩ := H
  unfold At at h'
  rw [h0] at h'
  injection h' with h'
  injection h' with _ h'
  exact ht h'.symm

theorem down_at (b N n cap i : Nat) (h : Nat → Ev) (w : World) (ci : Int) (H : Holds w b N h) (hci : ci = i) (hn : n ≤ N) (hN : n ≤ 1024) (hi : i ≤ n) :
    Calls Yba.prog 14 #[.slice (some ⟨b, 0, none⟩) n cap, .int .i64 ci] w fun e w' => e = .returned (.tuple #[]) ∧ Holds w' b N (downF n (n + 1) i h) ∧ But [b] w w' := by
  subst hci; exact down_any b N n cap i h w H hn hN hi

abbrev Ev.cells (e : Ev) : Array Value := #[.int .i64 e.at', .int .u64 e.seq, .bool e.step, .int .i64 e.frm, .int .i64 e.to, .int .i64 e.msg, .int .i64 e.round]
def popW (w : World) (b m : Nat) (h : Nat → Ev) : World := ((putEv w b 0 (h m)).alloc (.cells zeroEv.cells 28)).alloc (.cells (h 0).cells 28)
theorem size_put (w : World) (b i : Nat) (e : Ev) : (putEv w b i e).heap.size = w.heap.size := by simp [putEv]
theorem At.put {w : World} {b b' i : Nat} {c : Array Value} {T : TypeId} (h : At w b' c T) (hb : b' ≠ b) (e : Ev) : At (putEv w b i e) b' c T :=
  ((((((h.other hb _).other hb _).other hb _).other hb _).other hb _).other hb _).other hb _
theorem At.new' (w : World) (c : Array Value) (T : TypeId) {b : Nat} (hb : w.heap.size = b) : At (w.alloc (.cells c T)) b c T := hb ▸ At.new w c T

set_option maxHeartbeats 1600000 in
theorem pop_any (Q b N m cap : Nat) (h : Nat → Ev) (w : World) (H : Holds w b N h) (hQ : At w Q #[.slice (some ⟨b, 0, none⟩) (m + 1) cap] 24) (hn : m + 1 ≤ N) (hN : m + 1 ≤ 1024) (hcap : m + 1 ≤ cap) :
    Calls Yba.prog 9 #[.pointer (some ⟨Q, 0, none⟩)] w fun e w' => e = .returned (h 0).agg ∧ Holds w' b N (popF m h) ∧ At w' Q #[.slice (some ⟨b, 0, none⟩) m cap] 24 ∧ But [b, Q] w w' := by
  have nQ := H.ne hQ (by decide)
  have q0 := hQ.cell 0
  have qz := hQ.frozen 0
  have lQ := hQ.lt
  have lb := H.lt
  have a0 := H.cell0 (i := m) (by omega); have a1 := H.cell1 (i := m) (by omega); have a2 := H.cell2 (i := m) (by omega); have a3 := H.cell3 (i := m) (by omega); have a4 := H.cell4 (i := m) (by omega); have a5 := H.cell5 (i := m) (by omega); have a6 := H.cell6 (i := m) (by omega)
  have b0 := H.cell0 (i := 0) (by omega); have b1 := H.cell1 (i := 0) (by omega); have b2 := H.cell2 (i := 0) (by omega); have b3 := H.cell3 (i := 0) (by omega); have b4 := H.cell4 (i := 0) (by omega); have b5 := H.cell5 (i := 0) (by omega); have b6 := H.cell6 (i := 0) (by omega)
  have z0 := rowLe.frozen H 0; have z1 := rowLe.frozen H 1; have z2 := rowLe.frozen H 2; have z3 := rowLe.frozen H 3; have z4 := rowLe.frozen H 4; have z5 := rowLe.frozen H 5; have z6 := rowLe.frozen H 6
  have y0 := rowLe.frozen H (m * 7); have y1 := rowLe.frozen H (m * 7 + 1); have y2 := rowLe.frozen H (m * 7 + 2); have y3 := rowLe.frozen H (m * 7 + 3); have y4 := rowLe.frozen H (m * 7 + 4); have y5 := rowLe.frozen H (m * 7 + 5); have y6 := rowLe.frozen H (m * 7 + 6)
  simp only [Nat.zero_mul, Nat.zero_add] at b0 b1 b2 b3 b4 b5 b6
  go_enter Yba.func9, Yba.ntmps9
  go_upto_region 4 with fail
  change Code.wp _ _ _ _ (popW w b m h)
  have H1 : Holds (popW w b m h) b N (upd h 0 (h m)) := ((H.put 0 (h m)).alloc _).alloc _
  have hQ1 : At (popW w b m h) Q #[.slice (some ⟨b, 0, none⟩) (m + 1) cap] 24 := ((hQ.put nQ.symm _).alloc _).alloc _
  have hr1 : At (popW w b m h) w.heap.size zeroEv.cells 28 := (At.new' _ _ _ (size_put _ _ _ _)).alloc _
  have he1 : At (popW w b m h) (w.heap.size + 1) (h 0).cells 28 := At.new' _ _ _ (by simp [size_put])
  have bt1 : But [b, Q] w (popW w b m h) := (((But.refl _ _).put (.inl (by simp)) 0 (h m)).alloc _).alloc _
  generalize popW w b m h = w1 at *
  clear q0 qz a0 a1 a2 a3 a4 a5 a6 b0 b1 b2 b3 b4 b5 b6 z0 z1 z2 z3 z4 z5 z6 y0 y1 y2 y3 y4 y5 y6
  have a0 := H1.cell0 (i := m) (by omega); have a1 := H1.cell1 (i := m) (by omega); have a2 := H1.cell2 (i := m) (by omega); have a3 := H1.cell3 (i := m) (by omega); have a4 := H1.cell4 (i := m) (by omega); have a5 := H1.cell5 (i := m) (by omega); have a6 := H1.cell6 (i := m) (by omega)
  have y0 := rowLe.frozen H1 (m * 7); have y1 := rowLe.frozen H1 (m * 7 + 1); have y2 := rowLe.frozen H1 (m * 7 + 2); have y3 := rowLe.frozen H1 (m * 7 + 3); have y4 := rowLe.frozen H1 (m * 7 + 4); have y5 := rowLe.frozen H1 (m * 7 + 5); have y6 := rowLe.frozen H1 (m * 7 + 6)
  go_upto_region 5 with fail
  change Code.wp _ _ _ _ (putEv w1 b m zeroEv)
  have H2 := H1.put m zeroEv
  have hQ2 := hQ1.put (b := b) (i := m) nQ.symm zeroEv
  have hr2 := hr1.put (b := b) (i := m) (by omega) zeroEv
  have he2 := he1.put (b := b) (i := m) (by omega) zeroEv
  have bt2 := bt1.put (b := b) (.inl (by simp)) m zeroEv
  generalize putEv w1 b m zeroEv = w2 at *
  clear a0 a1 a2 a3 a4 a5 a6 y0 y1 y2 y3 y4 y5 y6 H1 hQ1 hr1 he1 bt1
  have q0 := hQ2.cell 0
  have qz := hQ2.frozen 0
  go_wp2_with fail
  have H3 := H2.other (a := ⟨Q, 0, none⟩) nQ (.slice (some ⟨b, 0, none⟩) m cap)
  have hQ3 : At (w2.setCell ⟨Q, 0, none⟩ (.slice (some ⟨b, 0, none⟩) m cap)) Q #[.slice (some ⟨b, 0, none⟩) m cap] 24 := hQ2.set 0 _
  have hr3 := hr2.other (a := ⟨Q, 0, none⟩) (by simp; omega) (.slice (some ⟨b, 0, none⟩) m cap)
  have he3 := he2.other (a := ⟨Q, 0, none⟩) (by simp; omega) (.slice (some ⟨b, 0, none⟩) m cap)
  have bt3 := bt2.setCell (p := ⟨Q, 0, none⟩) (.inl (by simp)) (.slice (some ⟨b, 0, none⟩) m cap)
  generalize w2.setCell ⟨Q, 0, none⟩ (.slice (some ⟨b, 0, none⟩) m cap) = w3 at *
  clear q0 qz H2 hQ2 hr2 he2 bt2
  refine (down_at b N m cap 0 _ w3 _ H3 rfl (by omega) (by omega) (by omega)).mono ?_
  rintro e w4 ⟨rfl, H4, bt4⟩
  have hQ4 := hQ3.but bt4 (by simpa using nQ.symm)
  have hr4 := hr3.but bt4 (by simp; omega)
  have he4 := he3.but bt4 (by simp; omega)
  have bt5 := bt3.trans (bt4.mono (by simp))
  have e0 := he4.cell 0; have e1 := he4.cell 1; have e2 := he4.cell 2; have e3 := he4.cell 3; have e4 := he4.cell 4; have e5 := he4.cell 5; have e6 := he4.cell 6
  have r0 := hr4.cell 0; have r1 := hr4.cell 1; have r2 := hr4.cell 2; have r3 := hr4.cell 3; have r4 := hr4.cell 4; have r5 := hr4.cell 5; have r6 := hr4.cell 6
  have z0 := hr4.frozen 0; have z1 := hr4.frozen 1; have z2 := hr4.frozen 2; have z3 := hr4.frozen 3; have z4 := hr4.frozen 4; have z5 := hr4.frozen 5; have z6 := hr4.frozen 6
  go_wp2_with fail
  refine bodyPost_ret (v := (h 0).agg) (by simp [results, Yba.results9, go_sem, r0, r1, r2, r3, r4, r5, r6]) rfl ⟨rfl, ?_, ?_, ?_⟩
  · exact ((((((H4.other (by simp; omega) _).other (by simp; omega) _).other (by simp; omega) _).other (by simp; omega) _).other (by simp; omega) _).other (by simp; omega) _).other (by simp; omega) _
  · exact ((((((hQ4.other (by simp; omega) _).other (by simp; omega) _).other (by simp; omega) _).other (by simp; omega) _).other (by simp; omega) _).other (by simp; omega) _).other (by simp; omega) _
  · exact ((((((bt5.setCell (.inr (by simp)) _).setCell (.inr (by simp)) _).setCell (.inr (by simp)) _).setCell (.inr (by simp)) _).setCell (.inr (by simp)) _).setCell (.inr (by simp)) _).setCell (.inr (by simp)) _
end Go.Proofs.Ybulkddry
