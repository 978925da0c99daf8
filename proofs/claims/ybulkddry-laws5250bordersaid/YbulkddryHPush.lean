import Derived.Test.YbulkddryHPop
import Derived.Deep.RegionLaw
namespace Go.Proofs.Ybulkddry
open Go.RowKit

/-- append onto a slice of the call's own, there is room or it grows, as one step of a region that draws. -/
theorem step_append_own {P : Program} {ops : Array Oper} {o : Oper} {a : Act} {w : World} {K : Act → World → Prop} {Q : Exit → Act → World → Prop} {E : Prop}
    (hg : o.guard = none) (s x : Operand) (t : TypeId) (hop : o.op = Op.call { callee := Callee.builtin Builtin.append, args := #[s, x], argTypes := #[t, t] })
    (base : Nat) (e : TypeId) (i : TypeInfo) (z : Value) (size bytes : Nat) (h1 : P.underlying t = some (.slice e)) (h2 : P.info? e = some i) (h3 : i.zero = some z) (h4 : i.size = size) (h5 : i.bytes = bytes) (h6 : z.cells.size = size) (h7 : 0 < size)
    (v : Value) (n : Nat) (xs : List Value) (hs : a.eval s = v) (hown : w.ownsRow base e size v n xs)
    (ad : Addr) (m c : Nat) (news : List Value) (hx : a.eval x = .slice (some ad) m c) (hn : news.length = m * size) (hc : ∀ j u, news[j]? = some u → w.cell? (ad.add j) = some u) (h1c : ∀ u ∈ news, u.oneCell' = true)
    (b1 : n + m ≤ maxLen) (b2 : (n + m) * bytes ≤ 140737488355328) (hbase : base ≤ w.heap.size)
    (hK : ∀ v' w', w'.ownsRow base e size v' (n + m) (xs ++ news) → w.grownBy w' v.ownBlock → K (a.put o.dst v') w') :
    if Region.wanted o (yielded ops a.tmps) = true then Oper.wp P o a w K Q else E := by
  have hw : Region.wanted o (yielded ops a.tmps) = true := by simp [Region.wanted, hg]
  rw [if_pos hw]
  obtain ⟨v', w', hrun, r1, r2, _⟩ := run_append_own (P := P) w base t o.type e i z size bytes h1 h2 h3 h4 h5 h6 h7 v n xs hown ad m c news hn hc h1c b1 b2 hbase
  unfold Oper.wp
  simp [execOp, hop, resolve, invoke, builtin, hs, hx, hrun, Result.andThen]
  exact hK v' w' r1 r2

/-- The slice value v holds n events h, in a row from block base on (or it is nil and n is 0). -/
def Own (w : World) (base : Nat) (v : Value) (n : Nat) (h : Nat → Ev) : Prop := w.ownsRow base 28 7 v n ((List.range (n * 7)).map (rowc h))

/-- The row behind b has room for cap events. -/
def Room (w : World) (b cap : Nat) : Prop := ∃ c : Array Value, w.heap[b]? = some (.cells c 28 (0, 0)) ∧ c.size = cap * 7
theorem Room.of_block {w w' : World} {b cap : Nat} (h : Room w b cap) (e : w'.heap[b]? = w.heap[b]?) : Room w' b cap := by
  obtain ⟨c, h1, h2⟩ := h; exact ⟨c, e.trans h1, h2⟩
theorem Room.setCell {w : World} {b cap : Nat} (h : Room w b cap) (a : Addr) (v : Value) : Room (w.setCell a v) b cap := by
  obtain ⟨c, h1, h2⟩ := h
  by_cases hb : b = a.block
  · subst hb
    refine ⟨if a.spot.isSome then c else c.setIfInBounds a.off v, ?_, by split <;> simpa using h2⟩
    simp [World.setCell, Array.getElem?_modify, h1]
  · exact ⟨c, (Below.heap_setCell _ _ _ _ hb).trans h1, h2⟩
theorem Room.put {w : World} {b cap : Nat} (h : Room w b cap) (b' i : Nat) (e : Ev) : Room (putEv w b' i e) b cap :=
  ((((((h.setCell _ _).setCell _ _).setCell _ _).setCell _ _).setCell _ _).setCell _ _).setCell _ _
theorem Room.swap {w : World} {b cap : Nat} (h : Room w b cap) (b' i j : Nat) (g : Nat → Ev) : Room (swapW w b' i j g) b cap := by
  unfold swapW
  have h2 := (h.put b' i (g j)).put b' j (g i)
  generalize putEv (putEv w b' i (g j)) b' j (g i) = w2 at *
  exact h2

theorem Own.open {w : World} {base : Nat} {v : Value} {n : Nat} {h : Nat → Ev} (H : Own w base v n h) (hn : 0 < n) :
    ∃ b cap, v = .slice (some ⟨b, 0, none⟩) n cap ∧ base ≤ b ∧ n ≤ cap ∧ cap ≤ maxLen ∧ Holds w b n h ∧ Room w b cap := by
  obtain ⟨_, h2⟩ := H
  rcases h2 with ⟨_, h0⟩ | ⟨g, cap, cur, hv, hb, hh, h1, h2, h3, h4⟩
  · omega
  · refine ⟨g, cap, hv, hb, h1, h2, ⟨cur, hh, by omega, fun i hi => ?_⟩, cur, hh, h3⟩
    have : (cur.toList.take (n * 7))[i]? = some (rowc h i) := by rw [h4]; simp [hi]
    rw [List.getElem?_take_of_lt hi] at this
    simpa using this

theorem Own.shut {w : World} {base b n cap : Nat} {h : Nat → Ev} (H : Holds w b n h) (R : Room w b cap) (hb : base ≤ b) (hn : n ≤ cap) (hc : cap ≤ maxLen) : Own w base (.slice (some ⟨b, 0, none⟩) n cap) n h := by
  obtain ⟨c, h1, h2⟩ := R
  obtain ⟨c', h1', h2', h3'⟩ := H
  rw [h1] at h1'
  injection h1' with h1'
  injection h1' with h1'
  subst h1'
  refine ⟨by simp, .inr ⟨b, cap, c, rfl, hb, h1, hn, hc, h2, ?_⟩⟩
  apply List.ext_getElem?
  intro j
  by_cases hj : j < n * 7
  · rw [List.getElem?_take_of_lt hj]; simp [hj, h3' j hj]
  · simp [hj]; omega

theorem Own.of_blocks {w w' : World} {base : Nat} {v : Value} {n : Nat} {h : Nat → Ev} (H : Own w base v n h) (e : ∀ k, base ≤ k → k < w.heap.size → w'.heap[k]? = w.heap[k]?) : Own w' base v n h := by
  obtain ⟨h1, h2⟩ := H
  refine ⟨h1, ?_⟩
  rcases h2 with h2 | ⟨g, cap, cur, hv, hb, hh, r⟩
  · exact .inl h2
  · exact .inr ⟨g, cap, cur, hv, hb, (e g hb (Array.getElem?_eq_some_iff.1 hh).1).trans hh, r⟩

theorem Own.nil (w : World) (base : Nat) (h : Nat → Ev) : Own w base (.slice none 0 0) 0 h := ⟨by simp, .inl ⟨rfl, rfl⟩⟩

theorem range_snoc (h : Nat → Ev) (n : Nat) (e : Ev) : ((List.range (n * 7)).map (rowc h)) ++ [Value.int .i64 e.at', .int .u64 e.seq, .bool e.step, .int .i64 e.frm, .int .i64 e.to, .int .i64 e.msg, .int .i64 e.round] = (List.range ((n + 1) * 7)).map (rowc (upd h n e)) := by
  apply List.ext_getElem?
  intro j
  by_cases hj : j < n * 7
  · rw [List.getElem?_append_left (by simpa using hj)]
    simp [hj, show j < (n + 1) * 7 by omega]
    unfold rowc; rw [upd_other _ _ (by omega)]
  · rw [List.getElem?_append_right (by simpa using hj)]
    simp only [List.length_map, List.length_range]
    have hc : j = n * 7 + 0 ∨ j = n * 7 + 1 ∨ j = n * 7 + 2 ∨ j = n * 7 + 3 ∨ j = n * 7 + 4 ∨ j = n * 7 + 5 ∨ j = n * 7 + 6 ∨ (n + 1) * 7 ≤ j := by omega
    rcases hc with rfl | rfl | rfl | rfl | rfl | rfl | rfl | hc
    all_goals first
      | (rw [Nat.add_sub_cancel_left, List.getElem?_map, List.getElem?_range (by omega)]; simp only [Option.map_some]; rw [rowc_at _ _ _ (by omega), upd_same]; rfl)
      | (rw [List.getElem?_eq_none (by simp; omega), List.getElem?_eq_none (by simpa using hc)])

theorem cells_at {W : World} {b : Nat} {c : Array Value} {T : TypeId} (h : At W b c T) : ∀ j u, c.toList[j]? = some u → W.cell? ((⟨b, 0, none⟩ : Addr).add j) = some u := fun j u hj => by
  rw [Go.WideShapes.add_plain, Nat.zero_add, h.cell j]; simpa using hj

theorem oneCells (ev : Ev) : ∀ u ∈ ev.cells.toList, u.oneCell' = true := by
  intro u hu
  simp at hu
  rcases hu with rfl | rfl | rfl | rfl | rfl | rfl | rfl <;> rfl

/-- The append of 'push', as one step of its region. -/
theorem push_append {ops : Array Oper} {o : Oper} {a : Act} {W : World} {K : Act → World → Prop} {Q' : Exit → Act → World → Prop} {E : Prop} {Q n nb : Nat} {v : Value} {h : Nat → Ev} {ev : Ev}
    (hg : o.guard = none) (hop : o.op = Op.call { callee := Callee.builtin Builtin.append, args := #[.tmp 10, .tmp 12], argTypes := #[24, 24] })
    (hs : a.eval (.tmp 10) = v) (hx : a.eval (.tmp 12) = .slice (some ⟨nb, 0, none⟩) 1 1) (hnew : At W nb ev.cells 28) (hQ : At W Q #[v] 24) (H : Own W (Q + 1) v n h) (hn : n < 1024)
    (hK : ∀ b cap w', At w' Q #[v] 24 → Holds w' b (n + 1) (upd h n ev) → Room w' b cap → Q + 1 ≤ b → n + 1 ≤ cap → cap ≤ maxLen → Below Q W w' → K (a.put o.dst (.slice (some ⟨b, 0, none⟩) (n + 1) cap)) w') :
    if Region.wanted o (yielded ops a.tmps) = true then Oper.wp Yba.prog o a W K Q' else E := by
  have hinfo : (Yba.prog.info? 28).map (fun i => (i.zero, i.size, i.bytes)) = some (some (.agg #[.int .i64 0, .int .u64 0, .bool false, .int .i64 0, .int .i64 0, .int .i64 0, .int .i64 0]), 7, 56) := by kernel_rfl
  obtain ⟨i0, hi0, hzz⟩ := Option.map_eq_some_iff.1 hinfo
  simp only [Prod.mk.injEq] at hzz
  obtain ⟨hz0, hz1, hz2⟩ := hzz
  have lQ := hQ.lt
  refine step_append_own hg (.tmp 10) (.tmp 12) 24 hop (Q + 1) 28 i0 _ 7 56 Yba.underlying24 hi0 hz0 hz1 hz2 rfl (by decide) v n ((List.range (n * 7)).map (rowc h)) hs H ⟨nb, 0, none⟩ 1 1 ev.cells.toList hx rfl (cells_at hnew) (oneCells ev) (by unfold maxLen; omega) (by omega) lQ ?_
  intro v' w' ho hgr
  have hob : ∀ k, v.ownBlock = some k → Q + 1 ≤ k := by
    intro k hk
    obtain ⟨_, h2⟩ := H
    rcases h2 with ⟨rfl, _⟩ | ⟨g, cap, cur, rfl, hb, _⟩
    · simp [Value.ownBlock] at hk
    · simp [Value.ownBlock] at hk; omega
  have O : Own w' (Q + 1) v' (n + 1) (upd h n ev) := by unfold Own; rw [← range_snoc]; exact ho
  obtain ⟨b, cap, rfl, hb, hcap, hmx, HH, RR⟩ := O.open (by omega)
  exact hK b cap w' (hQ.block (hgr.block Q lQ (fun e => by have := hob Q e.symm; omega))) HH RR hb hcap hmx ((Below.refl _ _).grown hgr (by omega) (fun k hk => by have := hob k hk; omega))

/-- What 'push' leaves: the new event goes up. -/
def upF : Nat → Nat → (Nat → Ev) → (Nat → Ev)
  | 0, _, h => h
  | f + 1, i, h => if i = 0 then h else if bef (h i) (h ((i - 1) / 2)) = true then upF f ((i - 1) / 2) (swp h i ((i - 1) / 2)) else h
def pushF (n : Nat) (h : Nat → Ev) (e : Ev) : Nat → Ev := upF (n + 1) n (upd h n e)

theorem At.swap {w : World} {b b' : Nat} {c : Array Value} {T : TypeId} (h : At w b' c T) (hb : b' ≠ b) (i j : Nat) (g : Nat → Ev) : At (swapW w b i j g) b' c T := by
  unfold swapW
  exact ((h.put hb (g j)).put hb (g i)).drew
theorem below_put {B : Nat} {a w : World} (h : Below B a w) {b : Nat} (hb : B ≤ b) (i : Nat) (e : Ev) : Below B a (putEv w b i e) :=
  ((((((h.setCell hb _).setCell hb _).setCell hb _).setCell hb _).setCell hb _).setCell hb _).setCell hb _
theorem below_swap {B : Nat} {a w : World} (h : Below B a w) {b : Nat} (hb : B ≤ b) (i j : Nat) (g : Nat → Ev) : Below B a (swapW w b i j g) := by
  unfold swapW
  exact (below_put (below_put h hb i (g j)) hb j (g i)).drew

theorem upF_zero {f : Nat} {h g : Nat → Ev} (hg : upF f 0 h = g) : h = g := by
  cases f with
  | zero => exact hg
  | succ f => simpa [upF] using hg
theorem upF_stop {f k : Nat} {h g : Nat → Ev} (hv : bef (h (k + 1)) (h (k / 2)) = false) (hg : upF f (k + 1) h = g) : h = g := by
  cases f with
  | zero => exact hg
  | succ f => simpa [upF, hv] using hg
theorem upF_step {f k : Nat} {h g : Nat → Ev} (hf : k + 1 < f) (hv : bef (h (k + 1)) (h (k / 2)) = true) (hg : upF f (k + 1) h = g) : ∃ f', k / 2 < f' ∧ upF f' (k / 2) (swp h (k + 1) (k / 2)) = g := by
  cases f with
  | zero => omega
  | succ f => exact ⟨f, by omega, by simpa [upF, hv] using hg⟩

set_option maxHeartbeats 1600000 in
theorem push_any (Q n : Nat) (v : Value) (h : Nat → Ev) (ev : Ev) (w : World) (hQ : At w Q #[v] 24) (H : Own w (Q + 1) v n h) (hn : n < 1024) :
    Calls Yba.prog 7 #[.pointer (some ⟨Q, 0, none⟩), ev.agg] w fun e w' => e = .returned (.tuple #[]) ∧ ∃ v', At w' Q #[v'] 24 ∧ Own w' (Q + 1) v' (n + 1) (pushF n h ev) ∧ Below Q w w' := by
  have q0 := hQ.cell 0
  have qz := hQ.frozen 0
  have lQ := hQ.lt
  go_enter Yba.func7, Yba.ntmps7
  go_wp2_with fail
  have hE1 := At.new w ev.cells 28
  have hQ1 := hQ.alloc (.cells ev.cells 28)
  have H1 : Own (w.alloc (.cells ev.cells 28)) (Q + 1) v n h := H.of_blocks fun k _ hk => Below.heap_alloc _ _ _ hk
  have bl1 : Below Q w (w.alloc (.cells ev.cells 28)) := (Below.refl _ _).alloc (by omega) _
  have lQ1 := hQ1.lt
  generalize w.alloc (.cells ev.cells 28) = w1 at *
  generalize w.heap.size = E at *
  clear q0 qz lQ
  have q0 := hQ1.cell 0
  have qz := hQ1.frozen 0
  have e0 := hE1.cell 0; have e1 := hE1.cell 1; have e2 := hE1.cell 2; have e3 := hE1.cell 3; have e4 := hE1.cell 4; have e5 := hE1.cell 5; have e6 := hE1.cell 6
  go_region_law (refine push_append (v := v) (h := h) (ev := ev) rfl rfl rfl rfl (by exact At.new w1 ev.cells 28) (by exact hQ1.alloc _) (by exact H1.of_blocks fun k _ hk => Below.heap_alloc _ _ _ hk) hn ?_; intro b cap w2 hQ2 H2 R2 hb hcap hmx bl2; have p0 := hQ2.cell 0; have pz := hQ2.frozen 0)
  all_goals
    clear q0 qz e0 e1 e2 e3 e4 e5 e6 p0 pz
    have hQ3 : At (w2.setCell ⟨Q, 0, none⟩ (.slice (some ⟨b, 0, none⟩) (n + 1) cap)) Q #[.slice (some ⟨b, 0, none⟩) (n + 1) cap] 24 := hQ2.set 0 _
    have H3 := H2.other (a := ⟨Q, 0, none⟩) (by simp; omega) (.slice (some ⟨b, 0, none⟩) (n + 1) cap)
    have R3 := R2.setCell ⟨Q, 0, none⟩ (.slice (some ⟨b, 0, none⟩) (n + 1) cap)
    have bl3 : Below Q w (w2.setCell ⟨Q, 0, none⟩ (.slice (some ⟨b, 0, none⟩) (n + 1) cap)) := (bl1.trans ((((Below.refl Q w1).alloc (by omega) _).drew).trans bl2)).setCell (Nat.le_refl _) _
    generalize w2.setCell ⟨Q, 0, none⟩ (.slice (some ⟨b, 0, none⟩) (n + 1) cap) = w3 at *
    obtain ⟨g, hg⟩ : ∃ g, Hid (upF (n + 1) n (upd h n ev) = g) := ⟨_, rfl⟩
    have p0 := hQ3.cell 0
    go_wp2_with fail
    clear p0
    go_loopw [5] (fun v wr => ∃ (f k : Nat) (h' : Nat → Ev), v = .int .i64 k ∧ k ≤ n ∧ Hid (k < f) ∧ Hid (upF f k h' = g) ∧ Holds wr b (n + 1) h' ∧ Room wr b cap ∧ At wr Q #[.slice (some ⟨b, 0, none⟩) (n + 1) cap] 24 ∧ Below Q w wr) (fun v _ => (intOf v).toNat)
    case atStart => exact ⟨n + 1, n, upd h n ev, rfl, Nat.le_refl _, by show _ < _; omega, hg, H3, R3, hQ3, bl3⟩
    case round =>
      obtain ⟨f, k, h', rfl, hk, hf, hd, Hr, Rr, hQr, blr⟩ := hrel
      cases k with
      | zero =>
        go_wp2_with fail
        refine bodyPost_end (results_none rfl _ _ _) rfl ⟨rfl, _, hQr, ?_, blr⟩
        unfold pushF
        rw [hg.out, ← upF_zero hd.out]
        exact Own.shut Hr Rr hb hcap hmx
      | succ k =>
        have kp : k / 2 < k + 1 := by omega
        go_wp2_with fail
        refine (before_at b (n + 1) (n + 1) cap (k + 1) (k / 2) h' wr _ _ Hr (by omega) (by omega) (by omega) (by omega) (Nat.le_refl _)).mono ?_
        rintro e w4 ⟨rfl, nq, rfl⟩
        have Hr1 := Hr.drewN nq
        have Rr1 : Room (wr.drewN nq) b cap := Rr
        have hQr1 := hQr.drewN nq
        have blr1 := below_drewN blr nq
        generalize wr.drewN nq = w4 at *
        cases hv1 : bef (h' (k + 1)) (h' (k / 2)) with
        | true =>
          have V1 : Hid (bef (h' (k + 1)) (h' (k / 2)) = true) := hv1
          clear hv1
          obtain ⟨f', hf', hd'⟩ := upF_step hf.out V1.out hd.out
          have F' : Hid (k / 2 < f') := hf'
          have D' : Hid (upF f' (k / 2) (swp h' (k + 1) (k / 2)) = g) := hd'
          clear hf' hd' V1
          rw [show ((k : Int) / 2) = ((k / 2 : Nat) : Int) from by omega]
          have jn : k / 2 < n + 1 := by omega
          generalize k / 2 = j at *
          have a0 := Hr1.cell0 (i := k + 1) (by omega); have a1 := Hr1.cell1 (i := k + 1) (by omega); have a2 := Hr1.cell2 (i := k + 1) (by omega); have a3 := Hr1.cell3 (i := k + 1) (by omega); have a4 := Hr1.cell4 (i := k + 1) (by omega); have a5 := Hr1.cell5 (i := k + 1) (by omega); have a6 := Hr1.cell6 (i := k + 1) (by omega)
          have b0 := Hr1.cell0 (i := j) (by omega); have b1 := Hr1.cell1 (i := j) (by omega); have b2 := Hr1.cell2 (i := j) (by omega); have b3 := Hr1.cell3 (i := j) (by omega); have b4 := Hr1.cell4 (i := j) (by omega); have b5 := Hr1.cell5 (i := j) (by omega); have b6 := Hr1.cell6 (i := j) (by omega)
          have z0 := rowLe.frozen Hr1 ((k + 1) * 7); have z1 := rowLe.frozen Hr1 ((k + 1) * 7 + 1); have z2 := rowLe.frozen Hr1 ((k + 1) * 7 + 2); have z3 := rowLe.frozen Hr1 ((k + 1) * 7 + 3); have z4 := rowLe.frozen Hr1 ((k + 1) * 7 + 4); have z5 := rowLe.frozen Hr1 ((k + 1) * 7 + 5); have z6 := rowLe.frozen Hr1 ((k + 1) * 7 + 6)
          have y0 := rowLe.frozen Hr1 (j * 7); have y1 := rowLe.frozen Hr1 (j * 7 + 1); have y2 := rowLe.frozen Hr1 (j * 7 + 2); have y3 := rowLe.frozen Hr1 (j * 7 + 3); have y4 := rowLe.frozen Hr1 (j * 7 + 4); have y5 := rowLe.frozen Hr1 (j * 7 + 5); have y6 := rowLe.frozen Hr1 (j * 7 + 6)
          go_wp2_with fail
          go_region
          go_wp2_with fail
          exact ⟨⟨f', j, swp h' (k + 1) j, rfl, by omega, F', D', Holds.swap Hr1, Room.swap Rr1 b (k + 1) j h', At.swap hQr1 (by omega) (k + 1) j h', below_swap blr1 (by omega) (k + 1) j h'⟩, by simp [intOf]; omega⟩
        | false =>
          have V1 : Hid (bef (h' (k + 1)) (h' (k / 2)) = false) := hv1
          clear hv1
          go_wp2_with fail
          refine bodyPost_ret (results_none rfl _ _ _) rfl ⟨rfl, _, hQr1, ?_, blr1⟩
          unfold pushF
          rw [hg.out, ← upF_stop V1.out hd.out]
          exact Own.shut Hr1 Rr1 hb hcap hmx
end Go.Proofs.Ybulkddry
