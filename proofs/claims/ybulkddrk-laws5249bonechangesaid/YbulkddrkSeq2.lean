import Derived.Test.YbulkddrkSeq1
import Derived.Defers
import Derived.Deep.RegionWith
import Derived.Handy
import Derived.Laws.EntriesVeiled
namespace Go.Proofs.Ybulkddrk
open Go.RowKit Go.MuLone

/-- Of the blocks of w only those in S may have turned in w'. -/
structure But (S : List Nat) (w w' : World) : Prop where
  os : w'.os = w.os
  tape : w'.tape = w.tape
  output : w'.output = w.output
  size : w.heap.size ≤ w'.heap.size
  block : ∀ k, k < w.heap.size → ¬ k ∈ S → w'.heap[k]? = w.heap[k]?

theorem But.refl (S : List Nat) (w : World) : But S w w := ⟨rfl, rfl, rfl, Nat.le_refl _, fun _ _ _ => rfl⟩
theorem But.trans {S : List Nat} {a b c : World} (h : But S a b) (k : But S b c) : But S a c :=
  ⟨k.os.trans h.os, k.tape.trans h.tape, k.output.trans h.output, Nat.le_trans h.size k.size, fun i hi hn => (k.block i (Nat.lt_of_lt_of_le hi h.size) hn).trans (h.block i hi hn)⟩
theorem But.of_below {S : List Nat} {w w' : World} (h : Below w.heap.size w w') : But S w w' := ⟨h.os, h.tape, h.output, h.size, fun k hk _ => h.block k hk⟩
theorem But.below {S : List Nat} {a w w' : World} (h : But S a w) (k : Below w.heap.size w w') : But S a w' := h.trans (.of_below k)
theorem But.alloc {S : List Nat} {a w : World} (h : But S a w) (o : Obj) : But S a (w.alloc o) := h.below ((Below.refl _ _).alloc (Nat.le_refl _) o)
theorem But.drew {S : List Nat} {a w : World} (h : But S a w) : But S a w.drew := h.below ((Below.refl _ _).drew)
theorem But.setCell {S : List Nat} {a w : World} (h : But S a w) {p : Addr} (hp : p.block ∈ S ∨ a.heap.size ≤ p.block) (v : Value) : But S a (w.setCell p v) :=
  ⟨h.os, h.tape, h.output, by simpa using h.size, fun k hk hn => by
    rw [Below.heap_setCell _ _ _ _ (by rintro rfl; rcases hp with hp | hp; exact hn hp; omega)]; exact h.block k hk hn⟩
theorem But.mono {S S' : List Nat} {w w' : World} (h : But S w w') (hs : ∀ x, x ∈ S → x ∈ S') : But S' w w' := ⟨h.os, h.tape, h.output, h.size, fun k hk hn => h.block k hk (fun hx => hn (hs k hx))⟩
theorem At.but {S : List Nat} {w w' : World} {b : Nat} {c : Array Value} {T : TypeId} (h : At w b c T) (hb : But S w w') (hn : ¬ b ∈ S) : At w' b c T := by
  have hl := h.lt
  unfold At at *; rw [hb.block b hl hn]; exact h
theorem But.toBelow {S : List Nat} {w w' : World} {B : Nat} (h : But S w w') (hB : B ≤ w.heap.size) (hs : ∀ x, x ∈ S → B ≤ x) : Below B w w' :=
  ⟨h.os, h.tape, h.output, h.size, fun k hk => h.block k (by omega) (fun hx => by have := hs k hx; omega)⟩

theorem At.under {w w' : World} {b B : Nat} {c : Array Value} {T : TypeId} (h : At w b c T) (hb : Below B w w') (hl : b < B) : At w' b c T := by
  unfold At at *; rw [hb.block b hl]; exact h
theorem But.under {S : List Nat} {a w w' : World} {B : Nat} (h : But S a w) (k : Below B w w') (hB : a.heap.size ≤ B) : But S a w' :=
  ⟨k.os.trans h.os, k.tape.trans h.tape, k.output.trans h.output, Nat.le_trans h.size k.size, fun i hi hn => (k.block i (Nat.lt_of_lt_of_le hi hB)).trans (h.block i hi hn)⟩

/-- A store of what a cell holds turns nothing. -/
theorem setCell_self {w : World} {b i : Nat} {c : Array Value} {T : TypeId} {v : Value} (h : At w b c T) (hv : c[i]? = some v) : w.setCell ⟨b, i, none⟩ v = w := by
  have hc : c.setIfInBounds i v = c := by
    apply Array.ext_getElem?
    intro j
    rw [Array.getElem?_setIfInBounds]
    split
    · subst_vars; split
      · exact hv.symm
      · rename_i hlt; rw [Array.getElem?_eq_none (by omega)]
    · rfl
  have hh : (w.setCell ⟨b, i, none⟩ v).heap = w.heap := by
    apply Array.ext_getElem?
    intro j
    by_cases hj : j = b
    · subst hj
      have := h.set i v
      rw [hc] at this
      unfold At at this h
      rw [this, h]
    · exact Below.heap_setCell _ _ _ _ hj
  exact congrArg (fun hp => { w with heap := hp }) hh

theorem neq_func_nil {t : TypeId} {a b : Array TypeId} {v : Bool} (fn : Fn) (x y : Array Value) (w : World) (ht : Yba.prog.underlying t = some (.func a b v)) :
    (binOp .neq t (.func fn x y) .nilFunc).run Yba.prog w = .ok (.bool true) w := by
  have h : ∀ d : Nat, (Op.equalIn (d + 1) t (.func fn x y) .nilFunc).run Yba.prog w = .ok false w := fun d => by simp [Op.equalIn, run_underlying ht]
  simp only [binOp]
  simp [Op.equal, Op.maxDepth, h 9999]
theorem neq_nil_nil {t : TypeId} {a b : Array TypeId} {v : Bool} (w : World) (ht : Yba.prog.underlying t = some (.func a b v)) :
    (binOp .neq t .nilFunc .nilFunc).run Yba.prog w = .ok (.bool false) w := by
  have h : ∀ d : Nat, (Op.equalIn (d + 1) t .nilFunc .nilFunc).run Yba.prog w = .ok true w := fun d => by simp [Op.equalIn, run_underlying ht]
  simp only [binOp]
  simp [Op.equal, Op.maxDepth, h 9999]
theorem neq39 (fn : Fn) (x y : Array Value) (w : World) : (binOp .neq 39 (.func fn x y) .nilFunc).run Yba.prog w = .ok (.bool true) w := neq_func_nil fn x y w Yba.underlying39

/-- Q, and no panic. -/
def Calm (Q : Exit → Act → World → Prop) : Exit → Act → World → Prop
  | .panic _, _, _ => False
  | e, a, w => Q e a w
theorem wp_calm {P : Program} {c : Code} {Q : Exit → Act → World → Prop} {a : Act} {w : World} (h : c.wp P (Calm Q) a w) : c.wp P Q a w :=
  Code.wp_mono (fun e a w h => by cases e <;> first | exact h | exact h.elim) h

abbrev nil79 : Array Value := set79 .nilFunc (.pointer none)

theorem policies_any (E : Nat) (cur : Option Addr) (w : World) (hc : w.cell? ⟨E, 0, none⟩ = some (.pointer cur)) (hcur : ∀ a, cur = some a → ∃ p, a = ⟨p, 0, none⟩ ∧ At w p nil79 79) :
    Calls Yba.prog 26 #[.pointer (some ⟨E, 0, none⟩)] w fun e w' => ∃ q, e = .returned (.pointer (some ⟨q, 0, none⟩)) ∧ At w' q nil79 79 ∧ Below w.heap.size w w' ∧ (cur = none ∨ cur = some ⟨q, 0, none⟩) := by
  cases cur with
  | none => exact (policies_nil E w hc).mono fun e w' ⟨he, hw⟩ => ⟨_, he, by rw [hw]; exact At.new _ _ _, by rw [hw]; exact (Below.refl _ _).alloc (Nat.le_refl _) _, .inl rfl⟩
  | some a =>
    obtain ⟨p, rfl, hp⟩ := hcur a rfl
    exact (policies_some E p _ w hc hp rfl).mono fun e w' ⟨he, hw⟩ => ⟨_, he, by rw [hw]; exact hp, by rw [hw]; exact Below.refl _ _, .inr rfl⟩

theorem next_fails_any (q OK X NF M : Nat) (cur : Option Addr) (w : World) (hq : At w q nil79 79) (hX : At w X #[.pointer cur] 23) (hNF : At w NF #[.bool true] 4) (hcur : cur = none ∨ cur = some ⟨q, 0, none⟩) :
    Calls Yba.prog 17 #[.pointer (some ⟨q, 0, none⟩), .pointer (some ⟨OK, 0, none⟩), .pointer (some ⟨X, 0, none⟩), .pointer (some ⟨NF, 0, none⟩), .pointer (some ⟨M, 0, none⟩)] w fun e w' =>
      (∃ a, e = .returned (.tuple #[empty85, .iface 118 (.pointer (some a))])) ∧ Below w.heap.size w w' := by
  rcases hcur with rfl | rfl
  · exact next_nil_fails q OK X NF M w (hq.cell 0) (hX.cell 0) (hNF.cell 0) hq.lt hX.lt hNF.lt
  · exact next_some_fails q OK X NF M w (hX.cell 0) (hNF.cell 0) hX.lt hNF.lt

theorem next_ok_any (q OK X NF M PS : Nat) (cur : Option Addr) (w : World) (hq : At w q nil79 79) (hX : At w X #[.pointer cur] 23) (hNF : At w NF #[.bool false] 4) (hM : At w M #[.pointer (some ⟨PS, 0, none⟩)] 23) (hcur : cur = none ∨ cur = some ⟨q, 0, none⟩) :
    Calls Yba.prog 17 #[.pointer (some ⟨q, 0, none⟩), .pointer (some ⟨OK, 0, none⟩), .pointer (some ⟨X, 0, none⟩), .pointer (some ⟨NF, 0, none⟩), .pointer (some ⟨M, 0, none⟩)] w fun e w' =>
      e = .returned (.tuple #[.agg #[.pointer (some ⟨PS, 0, none⟩), .string ⟨#[]⟩, .bool false], .nilIface]) ∧ Below w.heap.size w w' := by
  rcases hcur with rfl | rfl
  · exact next_nil_ok q OK X NF M PS w (hq.cell 0) (hX.cell 0) (hNF.cell 0) (hM.cell 0) hq.lt hX.lt hNF.lt hM.lt
  · exact next_some_ok q OK X NF M PS w (hX.cell 0) (hNF.cell 0) (hM.cell 0) hX.lt hNF.lt hM.lt

/-- The engine's cells: the set in place, the lock, the committer. -/
abbrev eng (cur : Option Addr) (lock : Int) (com : Value) : Array Value := #[.pointer cur, .int .i32 lock, .int .u32 0, .map none, com]

/-- One change whose 'next' fails. -/
theorem change_next_fails (E OK X NF M : Nat) (cur : Option Addr) (com : Value) (w : World) (hE : At w E (eng cur 0 com) 41) (hcur : ∀ a, cur = some a → ∃ p, a = ⟨p, 0, none⟩ ∧ At w p nil79 79)
    (hX : At w X #[.pointer cur] 23) (hNF : At w NF #[.bool true] 4) (nX : X ≠ E) (nNF : NF ≠ E) (ncur : ∀ p, cur = some ⟨p, 0, none⟩ → p ≠ E) :
    Calls Yba.prog 12 #[.pointer (some ⟨E, 0, none⟩), .func (.func 17) #[] #[.pointer (some ⟨OK, 0, none⟩), .pointer (some ⟨X, 0, none⟩), .pointer (some ⟨NF, 0, none⟩), .pointer (some ⟨M, 0, none⟩)]] w fun e w' =>
      (∃ a, e = .returned (.iface 118 (.pointer (some a)))) ∧ But [E] w w' ∧ At w' E (eng cur 0 com) 41 := by
  have c1 := hE.cell 1
  have f1 := hE.frozen 1
  go_enter_defers Yba.func12, Yba.ntmps12
  go_wp2_with (go_at_call 25; refine (lock_free Yba.muLib ⟨E, 1, none⟩ _ c1 f1).mono ?_; rintro e w' ⟨rfl, rfl⟩)
  have b1 : But [E] w (w.setCell ⟨E, 1, none⟩ (.int .i32 1)) := (But.refl _ _).setCell (.inl (by simp)) _
  have hE1 : At (w.setCell ⟨E, 1, none⟩ (.int .i32 1)) E (eng cur 1 com) 41 := hE.set 1 _
  generalize w.setCell ⟨E, 1, none⟩ (.int .i32 1) = w1 at *
  refine (policies_any E cur w1 (hE1.cell 0) ?_).mono ?_
  · rintro a ha
    obtain ⟨p, rfl, hp⟩ := hcur a ha
    exact ⟨p, rfl, hp.but b1 (by simpa using ncur p ha)⟩
  rintro e w2 ⟨q, rfl, hq, b2, hcq⟩
  have hE2 := hE1.below b2
  have b3 := b1.below b2
  go_wp2_with fail
  refine (next_fails_any q OK X NF M cur w2 hq (hX.but b3 (by simpa using nX)) (hNF.but b3 (by simpa using nNF)) hcq).mono ?_
  rintro e w4 ⟨⟨a, rfl⟩, b4⟩
  have hE4 := hE2.below b4
  have b5 := b3.below b4
  go_wp2_with fail
  have hE6 := hE4.alloc (.cells #[.pointer none, .string ⟨#[]⟩, .bool false] 85)
  have b6 := b5.alloc (.cells #[.pointer none, .string ⟨#[]⟩, .bool false] 85)
  generalize w4.alloc (.cells #[.pointer none, .string ⟨#[]⟩, .bool false] 85) = w6 at *
  refine leaves_cons (f := 14) (args := #[.pointer (some ⟨E, 1, none⟩)]) (by simp) (by simp [go_sem]) ?_
  refine (unlock_deferred Yba.muLib ⟨E, 1, none⟩ .returning _ (hE6.cell 1) (hE6.frozen 1)).mono ?_
  rintro e u' w'' ⟨rfl, rfl, rfl⟩
  exact ⟨_, results_tmp rfl _ _ _, ⟨a, rfl⟩, b6.setCell (.inl (by simp)) _, hE6.set 1 _⟩

set_option maxRecDepth 100000 in
set_option maxHeartbeats 1600000 in
/-- One change whose 'next' and committer let it pass. -/
theorem change_ok (E C F OK X NF M PS : Nat) (cur : Option Addr) (n : Int) (hn0 : 0 ≤ n) (hn1 : n < 9223372036854775807) (w : World) (hE : At w E (eng cur 0 (.func (.func 16) #[] #[.pointer (some ⟨C, 0, none⟩), .pointer (some ⟨F, 0, none⟩)])) 41) (hcur : ∀ a, cur = some a → ∃ p, a = ⟨p, 0, none⟩ ∧ At w p nil79 79)
    (hX : At w X #[.pointer cur] 23) (hNF : At w NF #[.bool false] 4) (hM : At w M #[.pointer (some ⟨PS, 0, none⟩)] 23) (hPS : At w PS nil79 79) (hC : At w C #[.int .i64 n] 3) (hF : At w F #[.bool false] 4)
    (nX : X ≠ E) (nNF : NF ≠ E) (nM : M ≠ E) (nPS : PS ≠ E) (nC : C ≠ E) (nF : F ≠ E) (nFC : F ≠ C) (nPC : PS ≠ C) (ncur : ∀ p, cur = some ⟨p, 0, none⟩ → p ≠ E) :
    Calls Yba.prog 12 #[.pointer (some ⟨E, 0, none⟩), .func (.func 17) #[] #[.pointer (some ⟨OK, 0, none⟩), .pointer (some ⟨X, 0, none⟩), .pointer (some ⟨NF, 0, none⟩), .pointer (some ⟨M, 0, none⟩)]] w fun e w' =>
      e = .returned .nilIface ∧ But [E, C] w w' ∧ At w' E (eng (some ⟨PS, 0, none⟩) 0 (.func (.func 16) #[] #[.pointer (some ⟨C, 0, none⟩), .pointer (some ⟨F, 0, none⟩)])) 41 ∧ At w' C #[.int .i64 (n + 1)] 3 := by
  have c1 := hE.cell 1
  have f1 := hE.frozen 1
  go_enter_defers Yba.func12, Yba.ntmps12
  go_wp2_with (go_at_call 25; refine (lock_free Yba.muLib ⟨E, 1, none⟩ _ c1 f1).mono ?_; rintro e w' ⟨rfl, rfl⟩)
  have b1 : But [E, C] w (w.setCell ⟨E, 1, none⟩ (.int .i32 1)) := (But.refl _ _).setCell (.inl (by simp)) _
  have hE1 : At (w.setCell ⟨E, 1, none⟩ (.int .i32 1)) E (eng cur 1 (.func (.func 16) #[] #[.pointer (some ⟨C, 0, none⟩), .pointer (some ⟨F, 0, none⟩)])) 41 := hE.set 1 _
  have hcur1 : ∀ a, cur = some a → ∃ p, a = ⟨p, 0, none⟩ ∧ At (w.setCell ⟨E, 1, none⟩ (.int .i32 1)) p nil79 79 := by
    rintro a ha
    obtain ⟨p, rfl, hp⟩ := hcur a ha
    exact ⟨p, rfl, hp.other (by simpa using ncur p ha) _⟩
  have hX1 : At (w.setCell ⟨E, 1, none⟩ (.int .i32 1)) X _ _ := hX.other (by simpa using nX) _
  have hNF1 : At (w.setCell ⟨E, 1, none⟩ (.int .i32 1)) NF _ _ := hNF.other (by simpa using nNF) _
  have hM1 : At (w.setCell ⟨E, 1, none⟩ (.int .i32 1)) M _ _ := hM.other (by simpa using nM) _
  have hPS1 : At (w.setCell ⟨E, 1, none⟩ (.int .i32 1)) PS _ _ := hPS.other (by simpa using nPS) _
  have hC1 : At (w.setCell ⟨E, 1, none⟩ (.int .i32 1)) C _ _ := hC.other (by simpa using nC) _
  have hF1 : At (w.setCell ⟨E, 1, none⟩ (.int .i32 1)) F _ _ := hF.other (by simpa using nF) _
  generalize w.setCell ⟨E, 1, none⟩ (.int .i32 1) = w1 at *
  refine (policies_any E cur w1 (hE1.cell 0) hcur1).mono ?_
  rintro e w2 ⟨q, rfl, hq, b2, hcq⟩
  go_wp2_with fail
  refine (next_ok_any q OK X NF M PS cur w2 hq (hX1.below b2) (hNF1.below b2) (hM1.below b2) hcq).mono ?_
  rintro e w4 ⟨rfl, b4⟩
  have hE4 := (hE1.below b2).below b4
  have hPS4 := (hPS1.below b2).below b4
  have hC4 := (hC1.below b2).below b4
  have hF4 := (hF1.below b2).below b4
  have hq4 := hq.below b4
  have b5 := (b1.below b2).below b4
  go_wp2_with fail
  have hc5 := At.new w4 #[.pointer (some ⟨PS, 0, none⟩), .string ⟨#[]⟩, .bool false] 85
  have hE5 := hE4.alloc (.cells #[.pointer (some ⟨PS, 0, none⟩), .string ⟨#[]⟩, .bool false] 85)
  have hPS5 := hPS4.alloc (.cells #[.pointer (some ⟨PS, 0, none⟩), .string ⟨#[]⟩, .bool false] 85)
  have hC5 := hC4.alloc (.cells #[.pointer (some ⟨PS, 0, none⟩), .string ⟨#[]⟩, .bool false] 85)
  have hF5 := hF4.alloc (.cells #[.pointer (some ⟨PS, 0, none⟩), .string ⟨#[]⟩, .bool false] 85)
  have hq5 := hq4.alloc (.cells #[.pointer (some ⟨PS, 0, none⟩), .string ⟨#[]⟩, .bool false] 85)
  have b6 := b5.alloc (.cells #[.pointer (some ⟨PS, 0, none⟩), .string ⟨#[]⟩, .bool false] 85)
  have lE := hE4.lt; have lP := hPS4.lt; have lC := hC4.lt; have lF := hF4.lt
  generalize w4.alloc (.cells #[.pointer (some ⟨PS, 0, none⟩), .string ⟨#[]⟩, .bool false] 85) = w5 at *
  generalize w4.heap.size = cb at *
  have k0 := hc5.cell 0
  have k16 := hq5.cell 16
  have k17 := hq5.cell 17
  have p16 := hPS5.cell 16
  have p17 := hPS5.cell 17
  have f16 := hPS5.frozen 16
  have f17 := hPS5.frozen 17
  go_region
  rw [setCell_self hPS5 rfl, setCell_self hPS5 rfl]
  replace hE5 := hE5.drew; replace hPS5 := hPS5.drew; replace hC5 := hC5.drew; replace hF5 := hF5.drew; replace hc5 := hc5.drew; replace b6 := b6.drew
  clear k0 k16 k17 p16 p17 f16 f17
  generalize w5.drew = w6 at *
  have e0 := hE5.cell 0
  have e4 := hE5.cell 4
  have k0 := hc5.cell 0
  have k1 := hc5.cell 1
  have k2 := hc5.cell 2
  have qf := neq39
  go_wp2_with fail
  refine wp_calm ?_
  go_region_with (go_at_call 16; refine (commit_ok C F _ _ _ n w6.drew hn0 hn1 (hC5.drew.cell 0) (hC5.drew.frozen 0) (hF5.drew.cell 0) hC5.drew.lt hF5.drew.lt nFC).mono ?_; rintro e w7 ⟨rfl, b7⟩)
  all_goals
    simp only [Calm]
    have hC7 : At w7 C #[.int .i64 (n + 1)] 3 := (hC5.drew.set 0 _).under b7 hC5.drew.lt
    have hE7 := (hE5.drew.other (a := ⟨C, 0, none⟩) (by simpa using nC.symm) (.int .i64 (n + 1))).under b7 hE5.drew.lt
    have hPS7 := (hPS5.drew.other (a := ⟨C, 0, none⟩) (by simpa using nPC) (.int .i64 (n + 1))).under b7 hPS5.drew.lt
    have hc7 := (hc5.drew.other (a := ⟨C, 0, none⟩) (by simp; omega) (.int .i64 (n + 1))).under b7 hc5.drew.lt
    have b8 := (b6.drew.setCell (p := ⟨C, 0, none⟩) (.inl (by simp)) (.int .i64 (n + 1))).under b7 b6.drew.size
    clear e0 e4 k0 k1 k2
    have e0 := hE7.cell 0
    have z0 := hE7.frozen 0
    have k0 := hc7.cell 0
    have p0 := hPS7.cell 0
    go_wp2_with fail
    refine wp_calm ?_
    go_region_with (go_at_call 7; refine (store_some E PS _ _ w7.drew (hE7.drew.cell 0) (hE7.drew.frozen 0) (hPS7.drew.cell 0)).mono ?_; rintro e w9 ⟨rfl, rfl⟩)
    simp only [Calm]
    have hE9 := (hE7.set 0 (.pointer (some ⟨PS, 0, none⟩))).drew
    have hC9 := (hC7.other (a := ⟨E, 0, none⟩) (by simpa using nC) (.pointer (some ⟨PS, 0, none⟩))).drew
    have b9 := (b8.setCell (p := ⟨E, 0, none⟩) (.inl (by simp)) (.pointer (some ⟨PS, 0, none⟩))).drew
    clear e0 z0 k0 p0
    generalize (w7.setCell ⟨E, 0, none⟩ (.pointer (some ⟨PS, 0, none⟩))).drew = w9 at *
    go_wp2_with fail
    refine leaves_cons (f := 14) (args := #[.pointer (some ⟨E, 1, none⟩)]) (by simp) (by simp [go_sem]) ?_
    refine (unlock_deferred Yba.muLib ⟨E, 1, none⟩ .returning _ (hE9.cell 1) (hE9.frozen 1)).mono ?_
    rintro e u' w'' ⟨rfl, rfl, rfl⟩
    exact ⟨_, results_tmp rfl _ _ _, rfl, b9.setCell (.inl (by simp)) _, hE9.set 1 _, hC9.other (by simpa using nC) _⟩
end Go.Proofs.Ybulkddrk
