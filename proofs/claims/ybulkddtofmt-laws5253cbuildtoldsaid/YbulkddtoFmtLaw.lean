import Derived.Test.YbulkddtoFmtLoop
namespace Go.Proofs.YbulkddtoFmt
open Go.RowKit Go.Extern.Stop Go.Stop Go.Extern
set_option linter.unusedVariables false
set_option linter.unusedSimpArgs false
attribute [local go_sem] neq25

theorem Inv.start {w w3 w0 : World} {os : Nat → Op3} {n : Nat} (e3 : w3 = ((w.alloc (.cells #[.slice none 0 0] 24)).alloc (.cells #[.pointer none] 25)).alloc (.cells #[.bool true] 4))
    (hown : w0.ownsRow (w.heap.size + 3) 31 1 (.slice (some ⟨w.heap.size + 3, 0, none⟩) 0 n) 0 []) (hg : w3.grownBy w0 none) : Inv w os n 0 w0 := by
  have s3 : w3.heap.size = w.heap.size + 3 := by rw [e3]; simp
  have hL : At w3 w.heap.size #[.slice none 0 0] 24 := by rw [e3]; exact ((At.new _ _ _).alloc _).alloc _
  have hS : At w3 (w.heap.size + 1) #[.pointer none] 25 := by rw [e3]; exact (At.new' _ _ _ (by simp)).alloc _
  have hA : At w3 (w.heap.size + 2) #[.bool true] 4 := by rw [e3]; exact At.new' _ _ _ (by simp)
  have keep : ∀ j, j < w.heap.size + 3 → w0.heap[j]? = w3.heap[j]? := fun j hj => hg.block j (by omega) (by simp)
  rcases hown.2 with ⟨h, _⟩ | ⟨g, cap, cur, hv, hb, hh, h1, h2, h3, _⟩
  · cases h
  · injection hv with hv _ hc
    injection hv with hv
    injection hv with hv
    subst hv hc
    refine ⟨cur, hh, by omega, fun j hj => absurd hj (by omega), hL.block (keep _ (by omega)), hS.block (keep _ (by omega)), hA.block (keep _ (by omega)), ?_⟩
    refine below_more (b := w3) (n' := w3.heap.size) (by rw [e3]; exact (((Below.refl _ _).alloc (by simp) _).alloc (by simp <;> omega) _).alloc (by simp <;> omega) _) ⟨hg.os, hg.tape, hg.output, hg.size, fun j hj => hg.block j hj (by simp)⟩ (by omega)

theorem first_any (v : Int) (w : World) : Calls Ybaf.prog 4 #[.int .u64 v] w fun e w' => e = .returned (.func (Fn.func 10) #[] #[.pointer (some ⟨w.heap.size, 0, none⟩)]) ∧ w' = w.alloc (.cells #[.int .u64 v] 22) := by
  go_enter Ybaf.func4, Ybaf.ntmps4
  go_wp2
  go_ret
  exact ⟨rfl, rfl⟩
theorem mode_any (v : Int) (w : World) : Calls Ybaf.prog 5 #[.int .u8 v] w fun e w' => e = .returned (.func (Fn.func 11) #[] #[.pointer (some ⟨w.heap.size, 0, none⟩)]) ∧ w' = w.alloc (.cells #[.int .u8 v] 27) := by
  go_enter Ybaf.func5, Ybaf.ntmps5
  go_wp2
  go_ret
  exact ⟨rfl, rfl⟩
theorem new_hi (F : Interp) (os : Nat → Op3) (n N LOG SEEN SAME S cap : Nat) (tb : Int) (a : Addr) (s : ByteArray) (w : World) (cur : Array Value)
    (hn : n ≤ 1024) (hS : At w S cur 31) (hcur : ∀ j, j < n → ∃ v, cur[j]? = some v ∧ Clo w w.heap.size LOG SEEN SAME j (os j) v)
    (hL : At w LOG #[.slice none 0 0] 24) (hSe : At w SEEN #[.pointer none] 25) (hA : At w SAME #[.bool true] 4)
    (hF : F.answers w.tape) (hg : w.cell? ⟨0, 0, none⟩ = some (.iface 69 (.pointer (some a)))) (hs : w.cell? a = some (.string s)) (h0 : 0 < N) (ha : a.block < N) (nL : N ≤ LOG) (nS : N ≤ SEEN) (hm : 2 < mdAt os n) :
    Calls Ybaf.prog 8 #[.int .u64 tb, .slice (some ⟨S, 0, none⟩) n cap] w fun e w' => ∃ E, e = .returned (.tuple #[.pointer none, .iface 57 (.pointer (some ⟨E, 0, none⟩))]) ∧ Fin w n LOG SEEN SAME w' ∧ w'.cell? ⟨E, 1, none⟩ = some (.iface 69 (.pointer (some a))) :=
  new_any F os n N LOG SEEN SAME S cap tb a s w cur hn hS hcur hL hSe hA hF hg hs h0 ha nL nS _ (fun w' E _ f c => ⟨E, rfl, f, c⟩) (fun w' h => absurd hm h)
theorem new_lo (F : Interp) (os : Nat → Op3) (n N LOG SEEN SAME S cap : Nat) (tb : Int) (a : Addr) (s : ByteArray) (w : World) (cur : Array Value)
    (hn : n ≤ 1024) (hS : At w S cur 31) (hcur : ∀ j, j < n → ∃ v, cur[j]? = some v ∧ Clo w w.heap.size LOG SEEN SAME j (os j) v)
    (hL : At w LOG #[.slice none 0 0] 24) (hSe : At w SEEN #[.pointer none] 25) (hA : At w SAME #[.bool true] 4)
    (hF : F.answers w.tape) (hg : w.cell? ⟨0, 0, none⟩ = some (.iface 69 (.pointer (some a)))) (hs : w.cell? a = some (.string s)) (h0 : 0 < N) (ha : a.block < N) (nL : N ≤ LOG) (nS : N ≤ SEEN) (hm : ¬ 2 < mdAt os n) :
    Calls Ybaf.prog 8 #[.int .u64 tb, .slice (some ⟨S, 0, none⟩) n cap] w fun e w' => e = .returned (.tuple #[.pointer (some ⟨w.heap.size, 0, none⟩), .nilIface]) ∧ Fin w n LOG SEEN SAME w' ∧ At w' w.heap.size (ctr tb (mdAt os n) (nxAt os n)) 42 :=
  new_any F os n N LOG SEEN SAME S cap tb a s w cur hn hS hcur hL hSe hA hF hg hs h0 ha nL nS _ (fun w' E h => absurd h hm) (fun w' _ f c => ⟨rfl, f, c⟩)

set_option maxRecDepth 100000 in
set_option maxHeartbeats 4000000 in
theorem law_walk (F : Interp) (os : Nat → Op3) (n b off cap : Nat) (ad : Option Addr) (tb : Int) (a : Addr) (s : ByteArray) (w : World) (hn : n ≤ 1024) (had : 0 < n → ad = some ⟨b, off, none⟩) (hO : Ops w b off n os) (hr : ∀ j, j < n → 0 ≤ (os j).op ∧ (os j).op ≤ 255)
    (hF : F.answers w.tape) (hg : w.cell? ⟨0, 0, none⟩ = some (.iface 69 (.pointer (some a)))) (hs : w.cell? a = some (.string s)) :
    Calls Ybaf.prog 3 #[.int .u64 tb, .slice ad n cap] w fun e w' => e = .returned (.bool true) ∧ Below w.heap.size w w' := by
  obtain ⟨i0, hi, hz0, hz1, hz2⟩ := info_parts Ybaf.info31
  go_enter Ybaf.func3, Ybaf.ntmps3
  go_wp2_with (at_make; refine wpList_make_own _ rfl _ _ 26 rfl (w.heap.size + 3) 31 i0 .nilFunc 1 Ybaf.underlying26 hi hz0 hz1 .i64 .i64 _ n rfl rfl rfl (by rw [hz2]; omega) (by unfold maxLen; omega) (by simp) ?_; intro w0 hown0 hgrow0)
  have hI := Inv.start (os := os) rfl (by simpa using hown0) hgrow0
  clear hown0 hgrow0
  rw [show w.heap.size + 1 + 1 + 1 = w.heap.size + 3 from rfl, show w.heap.size + 1 + 1 = w.heap.size + 2 from rfl]
  go_loopw [8, 9, 10, 11] (fun sv wm wn i wr => ∃ k : Nat, sv = .slice (some ⟨w.heap.size + 3, 0, none⟩) k n ∧ wm = .int .u8 (mdAt os k) ∧ wn = .int .u64 (nxAt os k) ∧ i = .int .i64 k ∧ k ≤ n ∧ Hid (Inv w os n k wr)) (fun _ _ _ i _ => n - (intOf i).toNat)
  case atStart => exact ⟨0, rfl, rfl, rfl, rfl, by omega, hI⟩
  case round =>
    obtain ⟨k, rfl, rfl, rfl, rfl, hk, hR⟩ := hrel
    by_cases hlt : k < n
    · obtain rfl := had (by omega)
      obtain ⟨o0, o1, o2⟩ := hO k hlt
      have lb : b < w.heap.size := cell_lt o0
      have bel : Below w.heap.size w wr := by obtain ⟨_, _, _, _, _, _, _, h⟩ := hR.out; exact h
      have p0 : wr.cell? ⟨b, off + k * 3, none⟩ = some (.int .u8 (os k).op) := cell_keep o0 (bel.block b lb)
      have p1 : wr.cell? ⟨b, off + k * 3 + 1, none⟩ = some (.int .u64 (os k).v) := cell_keep o1 (bel.block b lb)
      have p2 : wr.cell? ⟨b, off + k * 3 + 2, none⟩ = some (.int .u8 (os k).m) := cell_keep o2 (bel.block b lb)
      obtain ⟨r0, r1⟩ := hr k hlt
      clear o0 o1 o2 hO hr hI hg hs hF
      obtain ⟨o, ho⟩ : ∃ o, Hid (os k = o) := ⟨_, rfl⟩
      rw [ho.out] at p0 p1 p2 r0 r1
      obtain ⟨op, v, m⟩ := o
      simp only at p0 p1 p2 r0 r1
      go_upto_region 19 with fail
      have h30 := ((At.new wr #[.int .u8 op, .int .u64 v, .int .u8 m] 29).alloc (.cells #[.int .i64 k] 3)).alloc (.cells #[.nilFunc] 31)
      have h31 : At (((wr.alloc (.cells #[.int .u8 op, .int .u64 v, .int .u8 m] 29)).alloc (.cells #[.int .i64 k] 3)).alloc (.cells #[.nilFunc] 31)) (wr.heap.size + 1) #[.int .i64 k] 3 := (At.new' _ _ _ (by simp)).alloc _
      have h32 : At (((wr.alloc (.cells #[.int .u8 op, .int .u64 v, .int .u8 m] 29)).alloc (.cells #[.int .i64 k] 3)).alloc (.cells #[.nilFunc] 31)) (wr.heap.size + 2) #[.nilFunc] 31 := At.new' _ _ _ (by simp)
      have b3 : Below wr.heap.size wr (((wr.alloc (.cells #[.int .u8 op, .int .u64 v, .int .u8 m] 29)).alloc (.cells #[.int .i64 k] 3)).alloc (.cells #[.nilFunc] 31)) := (((Below.refl _ _).alloc (by simp) _).alloc (by simp) _).alloc (by simp <;> omega) _
      have s3 : (((wr.alloc (.cells #[.int .u8 op, .int .u64 v, .int .u8 m] 29)).alloc (.cells #[.int .i64 k] 3)).alloc (.cells #[.nilFunc] 31)).heap.size = wr.heap.size + 3 := by simp
      rw [show wr.heap.size + 1 + 1 = wr.heap.size + 2 from rfl]
      generalize (((wr.alloc (.cells #[.int .u8 op, .int .u64 v, .int .u8 m] 29)).alloc (.cells #[.int .i64 k] 3)).alloc (.cells #[.nilFunc] 31)) = W3 at *
      have c0 : W3.cell? ⟨wr.heap.size, 0, none⟩ = some (.int .u8 op) := h30.cell 0
      have c1 : W3.cell? ⟨wr.heap.size, 1, none⟩ = some (.int .u64 v) := h30.cell 1
      have c2 : W3.cell? ⟨wr.heap.size, 2, none⟩ = some (.int .u8 m) := h30.cell 2
      have d0 : W3.cell? ⟨wr.heap.size + 2, 0, none⟩ = some .nilFunc := h32.cell 0
      have f0 := h32.frozen 0
      clear p0 p1 p2
      rcases (show op % 3 = 0 ∨ op % 3 = 1 ∨ op % 3 = 2 by omega) with h3 | h3 | h3
      · rw [h3]
        go_upto_region 25 with (go_at_call 4; refine (first_any _ _).mono ?_; rintro e w4 ⟨rfl, rfl⟩)
        have k1 : At ((W3.setCell ⟨wr.heap.size + 2, 0, none⟩ (.func (Fn.func 10) #[] #[.pointer (some ⟨wr.heap.size + 3, 0, none⟩)])).alloc (.cells #[.int .u64 v] 22)) (wr.heap.size + 1) #[.int .i64 k] 3 := (h31.other (a := ⟨wr.heap.size + 2, 0, none⟩) (by show wr.heap.size + 1 ≠ wr.heap.size + 2; omega) _).alloc _
        have k2 : At ((W3.setCell ⟨wr.heap.size + 2, 0, none⟩ (.func (Fn.func 10) #[] #[.pointer (some ⟨wr.heap.size + 3, 0, none⟩)])).alloc (.cells #[.int .u64 v] 22)) (wr.heap.size + 2) #[(.func (Fn.func 10) #[] #[.pointer (some ⟨wr.heap.size + 3, 0, none⟩)])] 31 := (h32.set 0 (.func (Fn.func 10) #[] #[.pointer (some ⟨wr.heap.size + 3, 0, none⟩)])).alloc _
        have k3 : At ((W3.setCell ⟨wr.heap.size + 2, 0, none⟩ (.func (Fn.func 10) #[] #[.pointer (some ⟨wr.heap.size + 3, 0, none⟩)])).alloc (.cells #[.int .u64 v] 22)) (wr.heap.size + 3) #[.int .u64 v] 22 := At.new' _ _ _ (by simpa [World.setCell] using s3)
        have kb : Below wr.heap.size wr ((W3.setCell ⟨wr.heap.size + 2, 0, none⟩ (.func (Fn.func 10) #[] #[.pointer (some ⟨wr.heap.size + 3, 0, none⟩)])).alloc (.cells #[.int .u64 v] 22)) := (below_cell b3 (by omega) _).alloc (by simp [World.setCell]; omega) _
        generalize ((W3.setCell ⟨wr.heap.size + 2, 0, none⟩ (.func (Fn.func 10) #[] #[.pointer (some ⟨wr.heap.size + 3, 0, none⟩)])).alloc (.cells #[.int .u64 v] 22)) = W4 at *
        clear c0 c1 c2 d0 f0 h30 h31 h32 b3 s3
        have hq : valOf (os k) = .int .u64 v ∧ tyOf (os k) = 22 ∧ fnOf (os k) = 10 := by rw [ho.out]; simp [valOf, tyOf, fnOf, h3]
        have cS : ∀ ob, ((W4.alloc ob).cell? ⟨w.heap.size + 3, k, none⟩).isSome = true ∧ (W4.alloc ob).frozen? ⟨w.heap.size + 3, k, none⟩ = false := by
          intro ob
          obtain ⟨cur, hS, hsz, _⟩ := hR.out
          have hS4 := (hS.below kb).alloc ob
          refine ⟨?_, hS4.frozen k⟩
          rw [hS4.cell k, Array.getElem?_eq_getElem (by omega)]; rfl
        have fin : ∀ clo : Value, clo = .func (Fn.func 7) #[] #[.pointer (some ⟨w.heap.size, 0, none⟩), .pointer (some ⟨wr.heap.size + 1, 0, none⟩), .pointer (some ⟨w.heap.size + 1, 0, none⟩), .pointer (some ⟨w.heap.size + 2, 0, none⟩), .pointer (some ⟨wr.heap.size + 2, 0, none⟩)] →
            Inv w os n (k + 1) ((W4.alloc (.cells #[clo] 31)).setCell ⟨w.heap.size + 3, k, none⟩ clo) := by
          intro clo hclo
          have kb' : Below wr.heap.size wr (W4.alloc (.cells #[clo] 31)) := kb.alloc kb.size _
          refine Inv.step hR.out hlt kb' (IDX := wr.heap.size + 1) (INN := wr.heap.size + 2) (b := wr.heap.size + 3) hclo (k1.alloc _) ?_ ?_ (by omega) (by omega) (by omega)
          · rw [hq.2.2]; exact k2.alloc _
          · rw [hq.1, hq.2.1]; exact k3.alloc _
        have hmd : mdAt os (k + 1) = mdAt os k := by rw [mdAt, ho.out]; simp [mdOf, h3]
        have hnx : nxAt os (k + 1) = v := by rw [nxAt, ho.out]; simp [nxOf, h3]
        have hmd' := hmd.symm
        have hnx' := hnx.symm
        obtain ⟨hc1, hc2⟩ : (∀ ob, ((W4.alloc ob).cell? ⟨w.heap.size + 3, k, none⟩).isSome = true) ∧ (∀ ob, (W4.alloc ob).frozen? ⟨w.heap.size + 3, k, none⟩ = false) := ⟨fun ob => (cS ob).1, fun ob => (cS ob).2⟩
        have HM : Hid (mdAt os k = mdAt os (k + 1)) := hmd'
        have HN : Hid (v = nxAt os (k + 1)) := hnx'
        clear hmd hnx hmd' hnx' cS hq k1 k2 k3 kb bel h3 ho
        go_wp2_with (at_builtin; refine wpList_append_room1 _ rfl (.tmp 61) (.tmp 63) 26 rfl 31 i0 Ybaf.underlying26 hi hz1 (w.heap.size + 3) k n rfl ⟨W4.heap.size, 0, none⟩ _ rfl (cell_one_new _ _ _) rfl (by omega) (hc1 _) (hc2 _) ?_)
        exact ⟨⟨k + 1, rfl, by rw [HM.out], by rw [HN.out], by go_num, by omega, fin _ rfl⟩, by simp [intOf]; omega⟩
      · rw [h3]
        go_upto_region 25 with (go_at_call 5; refine (mode_any _ _).mono ?_; rintro e w4 ⟨rfl, rfl⟩)
        have k1 : At ((W3.setCell ⟨wr.heap.size + 2, 0, none⟩ (.func (Fn.func 11) #[] #[.pointer (some ⟨wr.heap.size + 3, 0, none⟩)])).alloc (.cells #[.int .u8 m] 27)) (wr.heap.size + 1) #[.int .i64 k] 3 := (h31.other (a := ⟨wr.heap.size + 2, 0, none⟩) (by show wr.heap.size + 1 ≠ wr.heap.size + 2; omega) _).alloc _
        have k2 : At ((W3.setCell ⟨wr.heap.size + 2, 0, none⟩ (.func (Fn.func 11) #[] #[.pointer (some ⟨wr.heap.size + 3, 0, none⟩)])).alloc (.cells #[.int .u8 m] 27)) (wr.heap.size + 2) #[(.func (Fn.func 11) #[] #[.pointer (some ⟨wr.heap.size + 3, 0, none⟩)])] 31 := (h32.set 0 (.func (Fn.func 11) #[] #[.pointer (some ⟨wr.heap.size + 3, 0, none⟩)])).alloc _
        have k3 : At ((W3.setCell ⟨wr.heap.size + 2, 0, none⟩ (.func (Fn.func 11) #[] #[.pointer (some ⟨wr.heap.size + 3, 0, none⟩)])).alloc (.cells #[.int .u8 m] 27)) (wr.heap.size + 3) #[.int .u8 m] 27 := At.new' _ _ _ (by simpa [World.setCell] using s3)
        have kb : Below wr.heap.size wr ((W3.setCell ⟨wr.heap.size + 2, 0, none⟩ (.func (Fn.func 11) #[] #[.pointer (some ⟨wr.heap.size + 3, 0, none⟩)])).alloc (.cells #[.int .u8 m] 27)) := (below_cell b3 (by omega) _).alloc (by simp [World.setCell]; omega) _
        generalize ((W3.setCell ⟨wr.heap.size + 2, 0, none⟩ (.func (Fn.func 11) #[] #[.pointer (some ⟨wr.heap.size + 3, 0, none⟩)])).alloc (.cells #[.int .u8 m] 27)) = W4 at *
        clear c0 c1 c2 d0 f0 h30 h31 h32 b3 s3
        have hq : valOf (os k) = .int .u8 m ∧ tyOf (os k) = 27 ∧ fnOf (os k) = 11 := by rw [ho.out]; simp [valOf, tyOf, fnOf, h3]
        have cS : ∀ ob, ((W4.alloc ob).cell? ⟨w.heap.size + 3, k, none⟩).isSome = true ∧ (W4.alloc ob).frozen? ⟨w.heap.size + 3, k, none⟩ = false := by
          intro ob
          obtain ⟨cur, hS, hsz, _⟩ := hR.out
          have hS4 := (hS.below kb).alloc ob
          refine ⟨?_, hS4.frozen k⟩
          rw [hS4.cell k, Array.getElem?_eq_getElem (by omega)]; rfl
        have fin : ∀ clo : Value, clo = .func (Fn.func 7) #[] #[.pointer (some ⟨w.heap.size, 0, none⟩), .pointer (some ⟨wr.heap.size + 1, 0, none⟩), .pointer (some ⟨w.heap.size + 1, 0, none⟩), .pointer (some ⟨w.heap.size + 2, 0, none⟩), .pointer (some ⟨wr.heap.size + 2, 0, none⟩)] →
            Inv w os n (k + 1) ((W4.alloc (.cells #[clo] 31)).setCell ⟨w.heap.size + 3, k, none⟩ clo) := by
          intro clo hclo
          have kb' : Below wr.heap.size wr (W4.alloc (.cells #[clo] 31)) := kb.alloc kb.size _
          refine Inv.step hR.out hlt kb' (IDX := wr.heap.size + 1) (INN := wr.heap.size + 2) (b := wr.heap.size + 3) hclo (k1.alloc _) ?_ ?_ (by omega) (by omega) (by omega)
          · rw [hq.2.2]; exact k2.alloc _
          · rw [hq.1, hq.2.1]; exact k3.alloc _
        have hmd : mdAt os (k + 1) = m := by rw [mdAt, ho.out]; simp [mdOf, h3]
        have hnx : nxAt os (k + 1) = nxAt os k := by rw [nxAt, ho.out]; simp [nxOf, h3]
        have hmd' := hmd.symm
        have hnx' := hnx.symm
        obtain ⟨hc1, hc2⟩ : (∀ ob, ((W4.alloc ob).cell? ⟨w.heap.size + 3, k, none⟩).isSome = true) ∧ (∀ ob, (W4.alloc ob).frozen? ⟨w.heap.size + 3, k, none⟩ = false) := ⟨fun ob => (cS ob).1, fun ob => (cS ob).2⟩
        have HM : Hid (m = mdAt os (k + 1)) := hmd'
        have HN : Hid (nxAt os k = nxAt os (k + 1)) := hnx'
        clear hmd hnx hmd' hnx' cS hq k1 k2 k3 kb bel h3 ho
        go_wp2_with (at_builtin; refine wpList_append_room1 _ rfl (.tmp 61) (.tmp 63) 26 rfl 31 i0 Ybaf.underlying26 hi hz1 (w.heap.size + 3) k n rfl ⟨W4.heap.size, 0, none⟩ _ rfl (cell_one_new _ _ _) rfl (by omega) (hc1 _) (hc2 _) ?_)
        exact ⟨⟨k + 1, rfl, by rw [HM.out], by rw [HN.out], by go_num, by omega, fin _ rfl⟩, by simp [intOf]; omega⟩
      · rw [h3]
        go_upto_region 25 with fail
        have k1 : At ((W3.setCell ⟨wr.heap.size + 2, 0, none⟩ (.func (Fn.func 6) #[] #[.pointer (some ⟨wr.heap.size + 3, 0, none⟩)])).alloc (.cells #[.int .u64 v] 22)) (wr.heap.size + 1) #[.int .i64 k] 3 := (h31.other (a := ⟨wr.heap.size + 2, 0, none⟩) (by show wr.heap.size + 1 ≠ wr.heap.size + 2; omega) _).alloc _
        have k2 : At ((W3.setCell ⟨wr.heap.size + 2, 0, none⟩ (.func (Fn.func 6) #[] #[.pointer (some ⟨wr.heap.size + 3, 0, none⟩)])).alloc (.cells #[.int .u64 v] 22)) (wr.heap.size + 2) #[(.func (Fn.func 6) #[] #[.pointer (some ⟨wr.heap.size + 3, 0, none⟩)])] 31 := (h32.set 0 (.func (Fn.func 6) #[] #[.pointer (some ⟨wr.heap.size + 3, 0, none⟩)])).alloc _
        have k3 : At ((W3.setCell ⟨wr.heap.size + 2, 0, none⟩ (.func (Fn.func 6) #[] #[.pointer (some ⟨wr.heap.size + 3, 0, none⟩)])).alloc (.cells #[.int .u64 v] 22)) (wr.heap.size + 3) #[.int .u64 v] 22 := At.new' _ _ _ (by simpa [World.setCell] using s3)
        have kb : Below wr.heap.size wr ((W3.setCell ⟨wr.heap.size + 2, 0, none⟩ (.func (Fn.func 6) #[] #[.pointer (some ⟨wr.heap.size + 3, 0, none⟩)])).alloc (.cells #[.int .u64 v] 22)) := (below_cell b3 (by omega) _).alloc (by simp [World.setCell]; omega) _
        generalize ((W3.setCell ⟨wr.heap.size + 2, 0, none⟩ (.func (Fn.func 6) #[] #[.pointer (some ⟨wr.heap.size + 3, 0, none⟩)])).alloc (.cells #[.int .u64 v] 22)) = W4 at *
        clear c0 c1 c2 d0 f0 h30 h31 h32 b3 s3
        have hq : valOf (os k) = .int .u64 v ∧ tyOf (os k) = 22 ∧ fnOf (os k) = 6 := by rw [ho.out]; simp [valOf, tyOf, fnOf, h3]
        have cS : ∀ ob, ((W4.alloc ob).cell? ⟨w.heap.size + 3, k, none⟩).isSome = true ∧ (W4.alloc ob).frozen? ⟨w.heap.size + 3, k, none⟩ = false := by
          intro ob
          obtain ⟨cur, hS, hsz, _⟩ := hR.out
          have hS4 := (hS.below kb).alloc ob
          refine ⟨?_, hS4.frozen k⟩
          rw [hS4.cell k, Array.getElem?_eq_getElem (by omega)]; rfl
        have fin : ∀ clo : Value, clo = .func (Fn.func 7) #[] #[.pointer (some ⟨w.heap.size, 0, none⟩), .pointer (some ⟨wr.heap.size + 1, 0, none⟩), .pointer (some ⟨w.heap.size + 1, 0, none⟩), .pointer (some ⟨w.heap.size + 2, 0, none⟩), .pointer (some ⟨wr.heap.size + 2, 0, none⟩)] →
            Inv w os n (k + 1) ((W4.alloc (.cells #[clo] 31)).setCell ⟨w.heap.size + 3, k, none⟩ clo) := by
          intro clo hclo
          have kb' : Below wr.heap.size wr (W4.alloc (.cells #[clo] 31)) := kb.alloc kb.size _
          refine Inv.step hR.out hlt kb' (IDX := wr.heap.size + 1) (INN := wr.heap.size + 2) (b := wr.heap.size + 3) hclo (k1.alloc _) ?_ ?_ (by omega) (by omega) (by omega)
          · rw [hq.2.2]; exact k2.alloc _
          · rw [hq.1, hq.2.1]; exact k3.alloc _
        have hmd : mdAt os (k + 1) = mdAt os k := by rw [mdAt, ho.out]; simp [mdOf, h3]
        have hnx : nxAt os (k + 1) = IntKind.u64.wrap (nxAt os k + v) := by rw [nxAt, ho.out]; simp [nxOf, h3]
        have hmd' := hmd.symm
        have hnx' := hnx.symm
        obtain ⟨hc1, hc2⟩ : (∀ ob, ((W4.alloc ob).cell? ⟨w.heap.size + 3, k, none⟩).isSome = true) ∧ (∀ ob, (W4.alloc ob).frozen? ⟨w.heap.size + 3, k, none⟩ = false) := ⟨fun ob => (cS ob).1, fun ob => (cS ob).2⟩
        have HM : Hid (mdAt os k = mdAt os (k + 1)) := hmd'
        have HN : Hid (IntKind.u64.wrap (nxAt os k + v) = nxAt os (k + 1)) := hnx'
        clear hmd hnx hmd' hnx' cS hq k1 k2 k3 kb bel h3 ho
        go_wp2_with (at_builtin; refine wpList_append_room1 _ rfl (.tmp 61) (.tmp 63) 26 rfl 31 i0 Ybaf.underlying26 hi hz1 (w.heap.size + 3) k n rfl ⟨W4.heap.size, 0, none⟩ _ rfl (cell_one_new _ _ _) rfl (by omega) (hc1 _) (hc2 _) ?_)
        exact ⟨⟨k + 1, rfl, by rw [HM.out], by rw [HN.out], by go_num, by omega, fin _ rfl⟩, by simp [intOf]; omega⟩
    · obtain rfl : k = n := by omega
      obtain ⟨cur, hS, hsz, hcl, hL, hSe, hA, bel⟩ := hR.out
      have l0 : 0 < w.heap.size := cell_lt hg
      have g0 : wr.cell? ⟨0, 0, none⟩ = some (.iface 69 (.pointer (some a))) := cell_keep hg (bel.block 0 l0)
      have la : a.block < w.heap.size := World.block_lt_of_cell? _ _ hs
      have gs : wr.cell? a = some (.string s) := (World.cell?_of_block (bel.block a.block la)).trans hs
      have hF' : F.answers wr.tape := by rw [bel.tape]; exact hF
      have lS := hS.lt
      have out : ∀ w5, Kp wr.heap.size w.heap.size (w.heap.size + 1) wr w5 → Below w.heap.size w w5 := fun w5 kp =>
        ⟨kp.os.trans bel.os, kp.tape.trans bel.tape, kp.output.trans bel.output, Nat.le_trans bel.size kp.size, fun j hj => (kp.block j (by omega) (by omega) (by omega)).trans (bel.block j hj)⟩
      by_cases hm : 2 < mdAt os k
      · have hcall := new_hi F os k w.heap.size w.heap.size (w.heap.size + 1) (w.heap.size + 2) (w.heap.size + 3) k tb a s wr cur hn hS hcl hL hSe hA hF' g0 gs l0 la (Nat.le_refl _) (by omega) hm
        clear hcl hL hSe hA hS hR gs hF' hI hO hr hF hs
        go_upto_region 27 with (go_at_call 8; refine hcall.mono ?_; rintro e w5 ⟨E, rfl, fin, ce⟩)
        obtain ⟨⟨lv, hL5, hlog⟩, hSe5, hA5, kp⟩ := fin
        obtain ⟨la', lcap, rfl⟩ := hlog.shape
        have q1 : w5.cell? ⟨w.heap.size, 0, none⟩ = some (.slice la' k lcap) := hL5.cell 0
        have q2 : w5.cell? ⟨w.heap.size + 2, 0, none⟩ = some (.bool true) := hA5.cell 0
        have q3 : w5.cell? ⟨0, 0, none⟩ = some (.iface 69 (.pointer (some a))) := cell_keep g0 (kp.block 0 (by omega) (by omega) (by omega))
        have bfin := out w5 kp
        clear out hcall kp hL5 hSe5 hA5 bel hg
        go_wp2_with fail
        go_loop [18] (fun v => ∃ j : Nat, v = .int .i64 j ∧ j ≤ k) (fun v => k - (intOf v).toNat)
        case atStart => exact ⟨0, rfl, by omega⟩
        case round =>
          obtain ⟨j, rfl, hj⟩ := hrel
          by_cases hjk : j < k
          · obtain ⟨g, cap', hv, _, _, hcell⟩ := hlog.cell hjk
            injection hv with hv _ _
            subst hv
            go_wp2
            go_round
            case rel => exact ⟨j + 1, by go_num, by omega⟩
            case measure => simp [intOf]; omega
          · obtain rfl : j = k := by omega
            go_wp2_with (go_at_call 9; refine (is_wrap_same E 0 a w5 ce).mono ?_; rintro e w6 ⟨rfl, rfl⟩)
            go_ret
            exact ⟨rfl, bfin⟩
      · have hcall := new_lo F os k w.heap.size w.heap.size (w.heap.size + 1) (w.heap.size + 2) (w.heap.size + 3) k tb a s wr cur hn hS hcl hL hSe hA hF' g0 gs l0 la (Nat.le_refl _) (by omega) hm
        clear hcl hL hSe hA hS hR gs hF' hI hO hr hF hs
        go_upto_region 27 with (go_at_call 8; refine hcall.mono ?_; rintro e w5 ⟨rfl, fin, hC5⟩)
        obtain ⟨⟨lv, hL5, hlog⟩, hSe5, hA5, kp⟩ := fin
        obtain ⟨la', lcap, rfl⟩ := hlog.shape
        have q1 : w5.cell? ⟨w.heap.size, 0, none⟩ = some (.slice la' k lcap) := hL5.cell 0
        have q2 : w5.cell? ⟨w.heap.size + 2, 0, none⟩ = some (.bool true) := hA5.cell 0
        have q4 : w5.cell? ⟨w.heap.size + 1, 0, none⟩ = some (.pointer (if k = 0 then none else some ⟨wr.heap.size, 0, none⟩)) := hSe5.cell 0
        have t0 : w5.cell? ⟨wr.heap.size, 0, none⟩ = some (.int .u64 tb) := hC5.cell 0
        have t1 : w5.cell? ⟨wr.heap.size, 1, none⟩ = some (.int .u8 (mdAt os k)) := hC5.cell 1
        have t4 : w5.cell? ⟨wr.heap.size, 4, none⟩ = some (.int .u64 (nxAt os k)) := hC5.cell 4
        have t5 : w5.cell? ⟨wr.heap.size, 5, none⟩ = some (.bool false) := hC5.cell 5
        have bfin := out w5 kp
        clear out hcall kp hL5 hSe5 hA5 bel hg hC5
        go_wp2_with fail
        go_loop [18] (fun v => ∃ j : Nat, v = .int .i64 j ∧ j ≤ k) (fun v => k - (intOf v).toNat)
        case atStart => exact ⟨0, rfl, by omega⟩
        case round =>
          obtain ⟨j, rfl, hj⟩ := hrel
          by_cases hjk : j < k
          · obtain ⟨g, cap', hv, _, _, hcell⟩ := hlog.cell hjk
            injection hv with hv _ _
            subst hv
            go_wp2
            go_round
            case rel => exact ⟨j + 1, by go_num, by omega⟩
            case measure => simp [intOf]; omega
          · obtain rfl : j = k := by omega
            by_cases h0 : j = 0
            · rw [if_pos h0] at q4
              go_wp2
              go_ret
              exact ⟨rfl, bfin⟩
            · rw [if_neg h0] at q4
              go_wp2
              go_ret
              exact ⟨rfl, bfin⟩
end Go.Proofs.YbulkddtoFmt
