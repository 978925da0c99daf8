import Derived.Test.YbulkddrkOne1
namespace Go.Proofs.Ybulkddrk
open Go.RowKit Go.MuLone

/-- The set in place (cur), and the entities that the current set will bear (yo); hs: is there one? -/
def Cur (w : World) (cur yo : Option Addr) (hs : Bool) : Prop := (cur = none ∧ yo = none ∧ hs = false) ∨ ∃ p, cur = some ⟨p, 0, none⟩ ∧ At w p (set79 .nilFunc (.pointer yo)) 79 ∧ hs = true

theorem policies2 (E : Nat) (cur yo : Option Addr) (hs : Bool) (w : World) (hc : w.cell? ⟨E, 0, none⟩ = some (.pointer cur)) (hcur : Cur w cur yo hs) :
    Calls Yba.prog 26 #[.pointer (some ⟨E, 0, none⟩)] w fun e w' => ∃ q, e = .returned (.pointer (some ⟨q, 0, none⟩)) ∧ At w' q (set79 .nilFunc (.pointer yo)) 79 ∧ Below w.heap.size w w' ∧ ((hs = true ∧ cur = some ⟨q, 0, none⟩) ∨ (hs = false ∧ Value.pointer yo = .pointer none)) := by
  rcases hcur with ⟨rfl, rfl, rfl⟩ | ⟨p, rfl, hp, rfl⟩
  · exact (policies_nil E w hc).mono fun e w' ⟨he, hw⟩ => ⟨_, he, by rw [hw]; exact At.new _ _ _, by rw [hw]; exact (Below.refl _ _).alloc (Nat.le_refl _) _, .inr ⟨rfl, rfl⟩⟩
  · exact (policies_some E p _ w hc hp rfl).mono fun e w' ⟨he, hw⟩ => ⟨_, he, by rw [hw]; exact hp, by rw [hw]; exact Below.refl _ _, .inl ⟨rfl, rfl⟩⟩

theorem Cur.other {w : World} {cur yo : Option Addr} {hs : Bool} (h : Cur w cur yo hs) {b i : Nat} {c : Array Value} {T : TypeId} (hb : At w b c T) (ht : T ≠ 79) (v : Value) : Cur (w.setCell ⟨b, i, none⟩ v) cur yo hs := by
  rcases h with h | ⟨p, h1, h2, h3⟩
  · exact .inl h
  · exact .inr ⟨p, h1, h2.other (h2.ne hb (Ne.symm ht)) _, h3⟩

theorem change9_fails (E NC SR NE HS ST NF M NM RM : Nat) (cur yo : Option Addr) (hs : Bool) (ne : Addr) (com : Value) (w : World) (hE : At w E (eng cur 0 com) 41) (hcur : Cur w cur yo hs)
    (hNC : At w NC #[.int .i64 0] 3) (hNE : At w NE #[.iface 118 (.pointer (some ne))] 82) (hHS : At w HS #[.bool hs] 4) (hST : At w ST #[.pointer cur] 23) (hNF : At w NF #[.bool true] 4) :
    Calls Yba.prog 12 #[.pointer (some ⟨E, 0, none⟩), .func (.func 9) #[] #[.pointer (some ⟨NC, 0, none⟩), .pointer (some ⟨SR, 0, none⟩), .pointer (some ⟨NE, 0, none⟩), .pointer (some ⟨HS, 0, none⟩), .pointer (some ⟨ST, 0, none⟩), .pointer (some ⟨NF, 0, none⟩), .pointer (some ⟨M, 0, none⟩), .pointer (some ⟨NM, 0, none⟩), .pointer (some ⟨RM, 0, none⟩)]] w fun e w' =>
      e = .returned (.iface 118 (.pointer (some ne))) ∧ But [E, NC] w w' ∧ At w' E (eng cur 0 com) 41 ∧ At w' NC #[.int .i64 1] 3 := by
  have c1 := hE.cell 1
  have f1 := hE.frozen 1
  go_enter_defers Yba.func12, Yba.ntmps12
  go_wp2_with (go_at_call 25; refine (lock_free Yba.muLib ⟨E, 1, none⟩ _ c1 f1).mono ?_; rintro e w' ⟨rfl, rfl⟩)
  have b1 : But [E, NC] w (w.setCell ⟨E, 1, none⟩ (.int .i32 1)) := (But.refl _ _).setCell (.inl (by simp)) _
  have hE1 : At (w.setCell ⟨E, 1, none⟩ (.int .i32 1)) E (eng cur 1 com) 41 := hE.set 1 _
  have hcur1 : Cur (w.setCell ⟨E, 1, none⟩ (.int .i32 1)) cur yo hs := hcur.other hE (by decide) _
  have hNC1 : At (w.setCell ⟨E, 1, none⟩ (.int .i32 1)) NC _ _ := hNC.other (hNC.ne hE (by decide)) _
  have hNE1 : At (w.setCell ⟨E, 1, none⟩ (.int .i32 1)) NE _ _ := hNE.other (hNE.ne hE (by decide)) _
  have hHS1 : At (w.setCell ⟨E, 1, none⟩ (.int .i32 1)) HS _ _ := hHS.other (hHS.ne hE (by decide)) _
  have hST1 : At (w.setCell ⟨E, 1, none⟩ (.int .i32 1)) ST _ _ := hST.other (hST.ne hE (by decide)) _
  have hNF1 : At (w.setCell ⟨E, 1, none⟩ (.int .i32 1)) NF _ _ := hNF.other (hNF.ne hE (by decide)) _
  generalize w.setCell ⟨E, 1, none⟩ (.int .i32 1) = w1 at *
  refine (policies2 E cur yo hs w1 (hE1.cell 0) hcur1).mono ?_
  rintro e w2 ⟨q, rfl, hq, b2, hcq⟩
  have hE2 := hE1.below b2
  have hNC2 := hNC1.below b2
  have b3 := b1.below b2
  go_wp2_with fail
  refine (next9_fails q NC SR NE HS ST NF M NM RM cur hs _ ne w2 hq hNC2 (hNE1.below b2) (hHS1.below b2) (hST1.below b2) (hNF1.below b2) hcq).mono ?_
  rintro e w4 ⟨rfl, b4, hNC4⟩
  have hE4 := hE2.but b4 (by simpa using hE2.ne hNC2 (by decide))
  have b5 := b3.trans (b4.mono (by simp))
  go_wp2_with fail
  have hE6 := hE4.alloc (.cells #[.pointer none, .string ⟨#[]⟩, .bool false] 85)
  have hNC6 := hNC4.alloc (.cells #[.pointer none, .string ⟨#[]⟩, .bool false] 85)
  have b6 := b5.alloc (.cells #[.pointer none, .string ⟨#[]⟩, .bool false] 85)
  generalize w4.alloc (.cells #[.pointer none, .string ⟨#[]⟩, .bool false] 85) = w6 at *
  refine leaves_cons (f := 14) (args := #[.pointer (some ⟨E, 1, none⟩)]) (by simp) (by simp [go_sem]) ?_
  refine (unlock_deferred Yba.muLib ⟨E, 1, none⟩ .returning _ (hE6.cell 1) (hE6.frozen 1)).mono ?_
  rintro e u' w'' ⟨rfl, rfl, rfl⟩
  exact ⟨_, results_tmp rfl _ _ _, rfl, b6.setCell (.inl (by simp)) _, hE6.set 1 _, hNC6.other (hNC6.ne hE6 (by decide)) _⟩

set_option maxRecDepth 100000 in
set_option maxHeartbeats 1600000 in
theorem change9_plain (E NC SR NE HS ST NF M NM RM PS : Nat) (cur yo : Option Addr) (hs : Bool) (nm : ByteArray) (rm : Bool) (w : World) (hE : At w E (eng cur 0 .nilFunc) 41) (hcur : Cur w cur yo hs)
    (hNC : At w NC #[.int .i64 0] 3) (hHS : At w HS #[.bool hs] 4) (hST : At w ST #[.pointer cur] 23) (hNF : At w NF #[.bool false] 4) (hM : At w M #[.pointer (some ⟨PS, 0, none⟩)] 23) (hNM : At w NM #[.string nm] 9) (hRM : At w RM #[.bool rm] 4) (hPS : At w PS nil79 79) :
    Calls Yba.prog 12 #[.pointer (some ⟨E, 0, none⟩), .func (.func 9) #[] #[.pointer (some ⟨NC, 0, none⟩), .pointer (some ⟨SR, 0, none⟩), .pointer (some ⟨NE, 0, none⟩), .pointer (some ⟨HS, 0, none⟩), .pointer (some ⟨ST, 0, none⟩), .pointer (some ⟨NF, 0, none⟩), .pointer (some ⟨M, 0, none⟩), .pointer (some ⟨NM, 0, none⟩), .pointer (some ⟨RM, 0, none⟩)]] w fun e w' =>
      e = .returned .nilIface ∧ But [E, NC, PS] w w' ∧ At w' E (eng (some ⟨PS, 0, none⟩) 0 .nilFunc) 41 ∧ At w' NC #[.int .i64 1] 3 ∧ At w' PS (set79 .nilFunc (.pointer yo)) 79 := by
  have c1 := hE.cell 1
  have f1 := hE.frozen 1
  go_enter_defers Yba.func12, Yba.ntmps12
  go_wp2_with (go_at_call 25; refine (lock_free Yba.muLib ⟨E, 1, none⟩ _ c1 f1).mono ?_; rintro e w' ⟨rfl, rfl⟩)
  have b1 : But [E, NC, PS] w (w.setCell ⟨E, 1, none⟩ (.int .i32 1)) := (But.refl _ _).setCell (.inl (by simp)) _
  have hE1 : At (w.setCell ⟨E, 1, none⟩ (.int .i32 1)) E (eng cur 1 .nilFunc) 41 := hE.set 1 _
  have hcur1 : Cur (w.setCell ⟨E, 1, none⟩ (.int .i32 1)) cur yo hs := hcur.other hE (by decide) _
  have hNC1 : At (w.setCell ⟨E, 1, none⟩ (.int .i32 1)) NC _ _ := hNC.other (hNC.ne hE (by decide)) _
  have hHS1 : At (w.setCell ⟨E, 1, none⟩ (.int .i32 1)) HS _ _ := hHS.other (hHS.ne hE (by decide)) _
  have hST1 : At (w.setCell ⟨E, 1, none⟩ (.int .i32 1)) ST _ _ := hST.other (hST.ne hE (by decide)) _
  have hNF1 : At (w.setCell ⟨E, 1, none⟩ (.int .i32 1)) NF _ _ := hNF.other (hNF.ne hE (by decide)) _
  have hM1 : At (w.setCell ⟨E, 1, none⟩ (.int .i32 1)) M _ _ := hM.other (hM.ne hE (by decide)) _
  have hNM1 : At (w.setCell ⟨E, 1, none⟩ (.int .i32 1)) NM _ _ := hNM.other (hNM.ne hE (by decide)) _
  have hRM1 : At (w.setCell ⟨E, 1, none⟩ (.int .i32 1)) RM _ _ := hRM.other (hRM.ne hE (by decide)) _
  have hPS1 : At (w.setCell ⟨E, 1, none⟩ (.int .i32 1)) PS _ _ := hPS.other (hPS.ne hE (by decide)) _
  generalize w.setCell ⟨E, 1, none⟩ (.int .i32 1) = w1 at *
  refine (policies2 E cur yo hs w1 (hE1.cell 0) hcur1).mono ?_
  rintro e w2 ⟨q, rfl, hq, b2, hcq⟩
  have hE2 := hE1.below b2
  have hNC2 := hNC1.below b2
  have hPS2 := hPS1.below b2
  have b3 := b1.below b2
  go_wp2_with fail
  refine (next9_ok q NC SR NE HS ST NF M NM RM cur hs _ PS nm rm w2 hq hNC2 (hM1.below b2) (hNM1.below b2) (hRM1.below b2) (hHS1.below b2) (hST1.below b2) (hNF1.below b2) hcq).mono ?_
  rintro e w4 ⟨rfl, b4, hNC4⟩
  have hE4 := hE2.but b4 (by simpa using hE2.ne hNC2 (by decide))
  have hPS4 := hPS2.but b4 (by simpa using hPS2.ne hNC2 (by decide))
  have hq4 := hq.but b4 (by simpa using hq.ne hNC2 (by decide))
  have b5 := b3.trans (b4.mono (by simp))
  go_wp2_with fail
  have hc5 := At.new w4 #[.pointer (some ⟨PS, 0, none⟩), .string nm, .bool rm] 85
  have hE5 := hE4.alloc (.cells #[.pointer (some ⟨PS, 0, none⟩), .string nm, .bool rm] 85)
  have hPS5 := hPS4.alloc (.cells #[.pointer (some ⟨PS, 0, none⟩), .string nm, .bool rm] 85)
  have hNC5 := hNC4.alloc (.cells #[.pointer (some ⟨PS, 0, none⟩), .string nm, .bool rm] 85)
  have hq5 := hq4.alloc (.cells #[.pointer (some ⟨PS, 0, none⟩), .string nm, .bool rm] 85)
  have b6 := b5.alloc (.cells #[.pointer (some ⟨PS, 0, none⟩), .string nm, .bool rm] 85)
  generalize w4.alloc (.cells #[.pointer (some ⟨PS, 0, none⟩), .string nm, .bool rm] 85) = w5 at *
  generalize w4.heap.size = cb at *
  have k0 := hc5.cell 0
  have k16 := hq5.cell 16
  have k17 := hq5.cell 17
  have p16 := hPS5.cell 16
  have p17 := hPS5.cell 17
  have f16 := hPS5.frozen 16
  have f17 := hPS5.frozen 17
  go_region
  have hPS6 : At ((w5.setCell ⟨PS, 16, none⟩ .nilFunc).setCell ⟨PS, 17, none⟩ (.pointer yo)).drew PS (set79 .nilFunc (.pointer yo)) 79 := ((hPS5.set 16 _).set 17 _).drew
  have hE6 := ((hE5.other (a := ⟨PS, 16, none⟩) (hE5.ne hPS5 (by decide)) .nilFunc).other (a := ⟨PS, 17, none⟩) (hE5.ne hPS5 (by decide)) (.pointer yo)).drew
  have hNC6 := ((hNC5.other (a := ⟨PS, 16, none⟩) (hNC5.ne hPS5 (by decide)) .nilFunc).other (a := ⟨PS, 17, none⟩) (hNC5.ne hPS5 (by decide)) (.pointer yo)).drew
  have hc6 := ((hc5.other (a := ⟨PS, 16, none⟩) (hc5.ne hPS5 (by decide)) .nilFunc).other (a := ⟨PS, 17, none⟩) (hc5.ne hPS5 (by decide)) (.pointer yo)).drew
  have b7 := ((b6.setCell (p := ⟨PS, 16, none⟩) (.inl (by simp)) .nilFunc).setCell (p := ⟨PS, 17, none⟩) (.inl (by simp)) (.pointer yo)).drew
  clear k0 k16 k17 p16 p17 f16 f17
  generalize ((w5.setCell ⟨PS, 16, none⟩ .nilFunc).setCell ⟨PS, 17, none⟩ (.pointer yo)).drew = w6 at *
  have e0 := hE6.cell 0
  have z0 := hE6.frozen 0
  have e4 := hE6.cell 4
  have k0 := hc6.cell 0
  have p0 := hPS6.cell 0
  have qf : ∀ w, (binOp .neq 39 .nilFunc .nilFunc).run Yba.prog w = .ok (.bool false) w := fun w => neq_nil_nil w Yba.underlying39
  go_wp2_with fail
  refine wp_calm ?_
  go_region_with (go_at_call 7; refine (store_some E PS _ _ w6.drew (hE6.drew.cell 0) (hE6.drew.frozen 0) (hPS6.drew.cell 0)).mono ?_; rintro e w9 ⟨rfl, rfl⟩)
  simp only [Calm]
  have hE9 := (hE6.set 0 (.pointer (some ⟨PS, 0, none⟩))).drew
  have hNC9 := (hNC6.other (a := ⟨E, 0, none⟩) (hNC6.ne hE6 (by decide)) (.pointer (some ⟨PS, 0, none⟩))).drew
  have hPS9 := (hPS6.other (a := ⟨E, 0, none⟩) (hPS6.ne hE6 (by decide)) (.pointer (some ⟨PS, 0, none⟩))).drew
  have b9 := (b7.setCell (p := ⟨E, 0, none⟩) (.inl (by simp)) (.pointer (some ⟨PS, 0, none⟩))).drew
  clear e0 z0 k0 p0 e4
  generalize (w6.setCell ⟨E, 0, none⟩ (.pointer (some ⟨PS, 0, none⟩))).drew = w9 at *
  go_wp2_with fail
  refine leaves_cons (f := 14) (args := #[.pointer (some ⟨E, 1, none⟩)]) (by simp) (by simp [go_sem]) ?_
  refine (unlock_deferred Yba.muLib ⟨E, 1, none⟩ .returning _ (hE9.cell 1) (hE9.frozen 1)).mono ?_
  rintro e u' w'' ⟨rfl, rfl, rfl⟩
  exact ⟨_, results_tmp rfl _ _ _, rfl, b9.setCell (.inl (by simp)) _, hE9.set 1 _, hNC9.other (hNC9.ne hE9 (by decide)) _, hPS9.other (hPS9.ne hE9 (by decide)) _⟩
end Go.Proofs.Ybulkddrk
