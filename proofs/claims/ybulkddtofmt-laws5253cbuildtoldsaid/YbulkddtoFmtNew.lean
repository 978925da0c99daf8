import Derived.Test.YbulkddtoFmtStep
namespace Go.Proofs.YbulkddtoFmt
open Go.RowKit Go.Extern.Stop Go.Stop Go.Extern
set_option linter.unusedVariables false
set_option linter.unusedSimpArgs false

def mdAt (os : Nat → Op3) : Nat → Int
  | 0 => 1
  | k + 1 => mdOf (os k) (mdAt os k)
def nxAt (os : Nat → Op3) : Nat → Int
  | 0 => 1
  | k + 1 => nxOf (os k) (nxAt os k)

/-- The value v is the law's closure number j over the option o, all its boxes below C. -/
def Clo (w : World) (C LOG SEEN SAME : Nat) (j : Nat) (o : Op3) (v : Value) : Prop :=
  ∃ IDX INN b, v = .func (Fn.func 7) #[] #[.pointer (some ⟨LOG, 0, none⟩), .pointer (some ⟨IDX, 0, none⟩), .pointer (some ⟨SEEN, 0, none⟩), .pointer (some ⟨SAME, 0, none⟩), .pointer (some ⟨INN, 0, none⟩)] ∧
    At w IDX #[.int .i64 j] 3 ∧ At w INN #[.func (Fn.func (fnOf o)) #[] #[.pointer (some ⟨b, 0, none⟩)]] 31 ∧ At w b #[valOf o] (tyOf o) ∧ IDX < C ∧ INN < C ∧ b < C
theorem At.kp {w w' : World} {C LOG SEEN b : Nat} {c : Array Value} {T : TypeId} (h : At w b c T) (k : Kp C LOG SEEN w w') (h1 : b < C) (h2 : b ≠ LOG) (h3 : b ≠ SEEN) : At w' b c T := h.block (k.block b h1 h2 h3)
theorem Clo.kp {w w' : World} {C LOG SEEN SAME j : Nat} {o : Op3} {v lv sv : Value} (h : Clo w C LOG SEEN SAME j o v) (k : Kp C LOG SEEN w w') (hL : At w LOG #[lv] 24) (hS : At w SEEN #[sv] 25) : Clo w' C LOG SEEN SAME j o v := by
  obtain ⟨IDX, INN, b, hv, h1, h2, h3, l1, l2, l3⟩ := h
  exact ⟨IDX, INN, b, hv, h1.kp k l1 (h1.ne hL (by decide)) (h1.ne hS (by decide)), h2.kp k l2 (h2.ne hL (by decide)) (h2.ne hS (by decide)),
    h3.kp k l3 (h3.ne hL (by unfold tyOf; split <;> decide)) (h3.ne hS (by unfold tyOf; split <;> decide)), l1, l2, l3⟩
theorem Kp.ans {C LOG SEEN : Nat} {w w' : World} (k : Kp C LOG SEEN w w') {F : Interp} (h : F.answers w.tape) : F.answers w'.tape := by
  have := k.tape
  rw [this]; exact h

/-- What NewAutoInc leaves. -/
def Fin (w : World) (n LOG SEEN SAME : Nat) (w' : World) : Prop :=
  (∃ lv, At w' LOG #[lv] 24 ∧ Log w' w.heap.size lv n) ∧ At w' SEEN #[.pointer (if n = 0 then none else some ⟨w.heap.size, 0, none⟩)] 25 ∧ At w' SAME #[.bool true] 4 ∧ Kp w.heap.size LOG SEEN w w'
/-- w' is w with new blocks and draws. -/
theorem Fin.more {w w' w'' : World} {n LOG SEEN SAME : Nat} (h : Fin w n LOG SEEN SAME w') (e : Below w'.heap.size w' w'') : Fin w n LOG SEEN SAME w'' := by
  obtain ⟨⟨lv, h1, h2⟩, h3, h4, h5⟩ := h
  exact ⟨⟨lv, h1.below e, h2.of_blocks fun j _ hj => e.block j hj⟩, h3.below e, h4.below e, h5.trans ⟨e.os, e.tape, e.output, e.size, fun x hx _ _ => e.block x (Nat.lt_of_lt_of_le hx h5.size)⟩⟩

set_option maxHeartbeats 1600000 in
theorem new_any (F : Interp) (os : Nat → Op3) (n N LOG SEEN SAME S cap : Nat) (tb : Int) (a : Addr) (s : ByteArray) (w : World) (cur : Array Value)
    (hn : n ≤ 1024) (hS : At w S cur 31) (hcur : ∀ j, j < n → ∃ v, cur[j]? = some v ∧ Clo w w.heap.size LOG SEEN SAME j (os j) v)
    (hL : At w LOG #[.slice none 0 0] 24) (hSe : At w SEEN #[.pointer none] 25) (hA : At w SAME #[.bool true] 4)
    (hF : F.answers w.tape) (hg : w.cell? ⟨0, 0, none⟩ = some (.iface 69 (.pointer (some a)))) (hs : w.cell? a = some (.string s)) (h0 : 0 < N) (ha : a.block < N) (nL : N ≤ LOG) (nS : N ≤ SEEN)
    (R : Ending → World → Prop) (hR1 : ∀ w' E, 2 < mdAt os n → Fin w n LOG SEEN SAME w' → w'.cell? ⟨E, 1, none⟩ = some (.iface 69 (.pointer (some a))) → R (.returned (.tuple #[.pointer none, .iface 57 (.pointer (some ⟨E, 0, none⟩))])) w')
    (hR2 : ∀ w', ¬ 2 < mdAt os n → Fin w n LOG SEEN SAME w' → At w' w.heap.size (ctr tb (mdAt os n) (nxAt os n)) 42 → R (.returned (.tuple #[.pointer (some ⟨w.heap.size, 0, none⟩), .nilIface])) w') :
    Calls Ybaf.prog 8 #[.int .u64 tb, .slice (some ⟨S, 0, none⟩) n cap] w R := by
  go_enter Ybaf.func8, Ybaf.ntmps8
  go_wp2_with fail
  have lS := hS.lt
  have lL := hL.lt
  have lSe := hSe.lt
  have lA := hA.lt
  go_loopw [14] (fun v wr => ∃ k : Nat, v = .int .i64 k ∧ k ≤ n ∧ Hid ((∃ lv, At wr LOG #[lv] 24 ∧ Log wr w.heap.size lv k) ∧ At wr SEEN #[.pointer (if k = 0 then none else some ⟨w.heap.size, 0, none⟩)] 25 ∧ At wr w.heap.size (ctr tb (mdAt os k) (nxAt os k)) 42 ∧ Kp w.heap.size LOG SEEN w wr)) (fun v _ => n - (intOf v).toNat)
  case atStart =>
    exact ⟨0, rfl, by omega, ⟨⟨_, hL.alloc _, World.ownsRow_nil _ _ _ _⟩, hSe.alloc _, At.new _ _ _, ⟨rfl, rfl, rfl, by simp, fun x h1 _ _ => Below.heap_alloc _ _ _ h1⟩⟩⟩
  case round =>
    obtain ⟨k, rfl, hk, hR⟩ := hrel
    by_cases hlt : k < n
    · obtain ⟨⟨lv, hLr, hlog⟩, hSr, hCr, kp⟩ := hR.out
      obtain ⟨v, hv, hclo⟩ := hcur k hlt
      obtain ⟨IDX, INN, b, rfl, hI, hN, hb, l1, l2, l3⟩ := hclo.kp kp hL hSe
      have hSS := hS.kp kp lS (hS.ne hL (by decide)) (hS.ne hSe (by decide))
      have hAA := hA.kp kp lA (hA.ne hL (by decide)) (hA.ne hSe (by decide))
      have c0 : wr.cell? ⟨S, k, none⟩ = some (.func (Fn.func 7) #[] #[.pointer (some ⟨LOG, 0, none⟩), .pointer (some ⟨IDX, 0, none⟩), .pointer (some ⟨SEEN, 0, none⟩), .pointer (some ⟨SAME, 0, none⟩), .pointer (some ⟨INN, 0, none⟩)]) := (hSS.cell k).trans hv
      have hst := step_any (os k) w.heap.size LOG IDX SEEN SAME INN b k _ lv tb _ _ wr (by split; exact .inl rfl; exact .inr rfl) (by omega) hLr hlog hI hSr hAA hN hb hCr lL lSe lA l2 l3
      clear hLr hlog hSr hCr hI hN hb hSS hAA hR hclo hcur hv
      go_wp2_with (go_at_call 7; refine hst.mono ?_; rintro e w5 ⟨rfl, hlv5, hS5, hC5, kp5⟩)
      exact ⟨⟨k + 1, by go_num, by omega, ⟨hlv5, hS5, hC5, kp.trans kp5⟩⟩, by simp [intOf]; omega⟩
    · obtain rfl : k = n := by omega
      obtain ⟨hlv, hSr, hCr, kp⟩ := hR.out
      have hAA := hA.kp kp lA (hA.ne hL (by decide)) (hA.ne hSe (by decide))
      have c1 : wr.cell? ⟨w.heap.size, 1, none⟩ = some (.int .u8 (mdAt os k)) := hCr.cell 1
      have g0 : wr.cell? ⟨0, 0, none⟩ = some (.iface 69 (.pointer (some a))) := cell_keep hg (kp.block 0 (by omega) (by omega) (by omega))
      have gs : wr.cell? a = some (.string s) := by
        have := kp.block a.block (by omega) (by omega) (by omega)
        unfold World.cell? at hs ⊢; rw [this]; exact hs
      have lC := hCr.lt
      have hF' := kp.ans hF
      have fin : Fin w k LOG SEEN SAME wr := ⟨hlv, hSr, hAA, kp⟩
      clear hR hcur hlv hSr hAA hg hs hF
      by_cases hm : 2 < mdAt os k
      · have hr1 := fun w' E => hR1 w' E hm
        clear hR1 hR2
        have nw := At.new wr #[.iface 69 (.pointer (some a)), .iface 27 (.int .u8 (mdAt os k))] 20
        have gs' : (wr.alloc (.cells #[.iface 69 (.pointer (some a)), .iface 27 (.int .u8 (mdAt os k))] 20)).drew.cell? a = some (.string s) := by
          have e := Below.heap_alloc wr (.cells #[.iface 69 (.pointer (some a)), .iface 27 (.int .u8 (mdAt os k))] 20) a.block (by omega)
          exact (World.cell?_of_block (w := wr) (w' := (wr.alloc (.cells #[.iface 69 (.pointer (some a)), .iface 27 (.int .u8 (mdAt os k))] 20)).drew) e).trans gs
        have hE := errorf_mode F (mdAt os k) a s wr.heap.size (wr.alloc (.cells #[.iface 69 (.pointer (some a)), .iface 27 (.int .u8 (mdAt os k))] 20)).drew hF' (nw.drew.cell 0) (nw.drew.cell 1) gs'
        clear nw gs' gs
        go_wp2_with fail
        go_region_with (go_at_call 12; refine hE.mono ?_; rintro e w6 ⟨rfl, rfl⟩)
        all_goals (try go_wp2)
        all_goals go_ret2
        all_goals (refine hr1 _ (wr.heap.size + 1) (fin.more ?_) ?_)
        all_goals first
          | exact ((((Below.refl _ _).alloc (by simp) _).alloc (by simp) _).drew).drew
          | exact (At.new' (wr.alloc _) #[.string _, .iface 69 (.pointer (some a))] 96 (by simp)).cell 1
      · have hr2 := fun w' => hR2 w' (by omega)
        clear hR1 hR2
        go_wp2
        exact hr2 wr fin hCr
end Go.Proofs.YbulkddtoFmt
