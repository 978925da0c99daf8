import Derived.Test.YbulkddrkOne2
namespace Go.Proofs.Ybulkddrk
open Go.RowKit Go.MuLone

theorem commit11' (CM GOT CF CE : Nat) (p : Value) (s : ByteArray) (b cf : Bool) (ce : Addr) (c0 c1 c2 : Value) (w : World)
    (hCM : At w CM #[.int .i64 0] 3) (hGOT : At w GOT #[c0, c1, c2] 85) (hCF : At w CF #[.bool cf] 4) (hCE : At w CE #[.iface 118 (.pointer (some ce))] 82) (n1 : CF ≠ CM) (x : Option Addr) (hp : p = .pointer x) :
    Calls Yba.prog 11 #[.agg #[p, .string s, .bool b], .pointer (some ⟨CM, 0, none⟩), .pointer (some ⟨GOT, 0, none⟩), .pointer (some ⟨CF, 0, none⟩), .pointer (some ⟨CE, 0, none⟩)] w fun e w' =>
      ∃ r, e = .returned r ∧ Hid (r = if cf then .iface 118 (.pointer (some ce)) else .nilIface) ∧ But [CM, GOT] w w' ∧ At w' CM #[.int .i64 1] 3 ∧ At w' GOT #[p, .string s, .bool b] 85 :=
  (commit11 CM GOT CF CE p s b cf ce c0 c1 c2 w hCM hGOT hCF hCE n1 x hp).mono fun _ _ ⟨h1, h2⟩ => ⟨_, h1, rfl, h2⟩

set_option maxRecDepth 100000 in
set_option maxHeartbeats 1600000 in
theorem change9_commit (E NC SR NE HS ST NF M NM RM PS CM GOT CF CE : Nat) (cf : Bool) (ce : Addr) (g0 g1 g2 : Value) (cur yo : Option Addr) (hs : Bool) (nm : ByteArray) (rm : Bool) (w : World) (hE : At w E (eng cur 0 (.func (.func 11) #[] #[.pointer (some ⟨CM, 0, none⟩), .pointer (some ⟨GOT, 0, none⟩), .pointer (some ⟨CF, 0, none⟩), .pointer (some ⟨CE, 0, none⟩)])) 41) (hcur : Cur w cur yo hs)
    (hNC : At w NC #[.int .i64 0] 3) (hHS : At w HS #[.bool hs] 4) (hST : At w ST #[.pointer cur] 23) (hNF : At w NF #[.bool false] 4) (hM : At w M #[.pointer (some ⟨PS, 0, none⟩)] 23) (hNM : At w NM #[.string nm] 9) (hRM : At w RM #[.bool rm] 4) (hPS : At w PS nil79 79)
    (hCM : At w CM #[.int .i64 0] 3) (hGOT : At w GOT #[g0, g1, g2] 85) (hCF : At w CF #[.bool cf] 4) (hCE : At w CE #[.iface 118 (.pointer (some ce))] 82) (nNC : NC ≠ CM) :
    Calls Yba.prog 12 #[.pointer (some ⟨E, 0, none⟩), .func (.func 9) #[] #[.pointer (some ⟨NC, 0, none⟩), .pointer (some ⟨SR, 0, none⟩), .pointer (some ⟨NE, 0, none⟩), .pointer (some ⟨HS, 0, none⟩), .pointer (some ⟨ST, 0, none⟩), .pointer (some ⟨NF, 0, none⟩), .pointer (some ⟨M, 0, none⟩), .pointer (some ⟨NM, 0, none⟩), .pointer (some ⟨RM, 0, none⟩)]] w fun e w' =>
      e = .returned (if cf then .iface 118 (.pointer (some ce)) else .nilIface) ∧ But [E, NC, PS, CM, GOT] w w' ∧ At w' E (eng (if cf then cur else some ⟨PS, 0, none⟩) 0 (.func (.func 11) #[] #[.pointer (some ⟨CM, 0, none⟩), .pointer (some ⟨GOT, 0, none⟩), .pointer (some ⟨CF, 0, none⟩), .pointer (some ⟨CE, 0, none⟩)])) 41 ∧ At w' CM #[.int .i64 1] 3 ∧ At w' GOT #[.pointer (some ⟨PS, 0, none⟩), .string nm, .bool rm] 85 ∧ At w' NC #[.int .i64 1] 3 ∧ At w' PS (set79 .nilFunc (.pointer yo)) 79 := by
  have c1 := hE.cell 1
  have f1 := hE.frozen 1
  go_enter_defers Yba.func12, Yba.ntmps12
  go_wp2_with (go_at_call 25; refine (lock_free Yba.muLib ⟨E, 1, none⟩ _ c1 f1).mono ?_; rintro e w' ⟨rfl, rfl⟩)
  have b1 : But [E, NC, PS, CM, GOT] w (w.setCell ⟨E, 1, none⟩ (.int .i32 1)) := (But.refl _ _).setCell (.inl (by simp)) _
  have hE1 : At (w.setCell ⟨E, 1, none⟩ (.int .i32 1)) E (eng cur 1 (.func (.func 11) #[] #[.pointer (some ⟨CM, 0, none⟩), .pointer (some ⟨GOT, 0, none⟩), .pointer (some ⟨CF, 0, none⟩), .pointer (some ⟨CE, 0, none⟩)])) 41 := hE.set 1 _
  have hcur1 : Cur (w.setCell ⟨E, 1, none⟩ (.int .i32 1)) cur yo hs := hcur.other hE (by decide) _
  have hNC1 : At (w.setCell ⟨E, 1, none⟩ (.int .i32 1)) NC _ _ := hNC.other (hNC.ne hE (by decide)) _
  have hHS1 : At (w.setCell ⟨E, 1, none⟩ (.int .i32 1)) HS _ _ := hHS.other (hHS.ne hE (by decide)) _
  have hST1 : At (w.setCell ⟨E, 1, none⟩ (.int .i32 1)) ST _ _ := hST.other (hST.ne hE (by decide)) _
  have hNF1 : At (w.setCell ⟨E, 1, none⟩ (.int .i32 1)) NF _ _ := hNF.other (hNF.ne hE (by decide)) _
  have hM1 : At (w.setCell ⟨E, 1, none⟩ (.int .i32 1)) M _ _ := hM.other (hM.ne hE (by decide)) _
  have hNM1 : At (w.setCell ⟨E, 1, none⟩ (.int .i32 1)) NM _ _ := hNM.other (hNM.ne hE (by decide)) _
  have hRM1 : At (w.setCell ⟨E, 1, none⟩ (.int .i32 1)) RM _ _ := hRM.other (hRM.ne hE (by decide)) _
  have hCM1 : At (w.setCell ⟨E, 1, none⟩ (.int .i32 1)) CM _ _ := hCM.other (hCM.ne hE (by decide)) _
  have hGOT1 : At (w.setCell ⟨E, 1, none⟩ (.int .i32 1)) GOT _ _ := hGOT.other (hGOT.ne hE (by decide)) _
  have hCF1 : At (w.setCell ⟨E, 1, none⟩ (.int .i32 1)) CF _ _ := hCF.other (hCF.ne hE (by decide)) _
  have hCE1 : At (w.setCell ⟨E, 1, none⟩ (.int .i32 1)) CE _ _ := hCE.other (hCE.ne hE (by decide)) _
  have hPS1 : At (w.setCell ⟨E, 1, none⟩ (.int .i32 1)) PS _ _ := hPS.other (hPS.ne hE (by decide)) _
  generalize w.setCell ⟨E, 1, none⟩ (.int .i32 1) = w1 at *
  refine (policies2 E cur yo hs w1 (hE1.cell 0) hcur1).mono ?_
  rintro e w2 ⟨q, rfl, hq, b2, hcq⟩
  have hE2 := hE1.below b2
  have hNC2 := hNC1.below b2
  have hCM2 := hCM1.below b2
  have hGOT2 := hGOT1.below b2
  have hCF2 := hCF1.below b2
  have hCE2 := hCE1.below b2
  have hPS2 := hPS1.below b2
  have b3 := b1.below b2
  go_wp2_with fail
  refine (next9_ok q NC SR NE HS ST NF M NM RM cur hs _ PS nm rm w2 hq hNC2 (hM1.below b2) (hNM1.below b2) (hRM1.below b2) (hHS1.below b2) (hST1.below b2) (hNF1.below b2) hcq).mono ?_
  rintro e w4 ⟨rfl, b4, hNC4⟩
  have hE4 := hE2.but b4 (by simpa using hE2.ne hNC2 (by decide))
  have hCM4 := hCM2.but b4 (by simpa using nNC.symm)
  have hGOT4 := hGOT2.but b4 (by simpa using hGOT2.ne hNC2 (by decide))
  have hCF4 := hCF2.but b4 (by simpa using hCF2.ne hNC2 (by decide))
  have hCE4 := hCE2.but b4 (by simpa using hCE2.ne hNC2 (by decide))
  have hPS4 := hPS2.but b4 (by simpa using hPS2.ne hNC2 (by decide))
  have hq4 := hq.but b4 (by simpa using hq.ne hNC2 (by decide))
  have b5 := b3.trans (b4.mono (by simp))
  go_wp2_with fail
  have hc5 := At.new w4 #[.pointer (some ⟨PS, 0, none⟩), .string nm, .bool rm] 85
  have hE5 := hE4.alloc (.cells #[.pointer (some ⟨PS, 0, none⟩), .string nm, .bool rm] 85)
  have hCM5 := hCM4.alloc (.cells #[.pointer (some ⟨PS, 0, none⟩), .string nm, .bool rm] 85)
  have hGOT5 := hGOT4.alloc (.cells #[.pointer (some ⟨PS, 0, none⟩), .string nm, .bool rm] 85)
  have hCF5 := hCF4.alloc (.cells #[.pointer (some ⟨PS, 0, none⟩), .string nm, .bool rm] 85)
  have hCE5 := hCE4.alloc (.cells #[.pointer (some ⟨PS, 0, none⟩), .string nm, .bool rm] 85)
  have hPS5 := hPS4.alloc (.cells #[.pointer (some ⟨PS, 0, none⟩), .string nm, .bool rm] 85)
  have hNC5 := hNC4.alloc (.cells #[.pointer (some ⟨PS, 0, none⟩), .string nm, .bool rm] 85)
  have hq5 := hq4.alloc (.cells #[.pointer (some ⟨PS, 0, none⟩), .string nm, .bool rm] 85)
  have b6 := b5.alloc (.cells #[.pointer (some ⟨PS, 0, none⟩), .string nm, .bool rm] 85)
  have lG := hGOT4.lt
  generalize w4.alloc (.cells #[.pointer (some ⟨PS, 0, none⟩), .string nm, .bool rm] 85) = w5 at *
  generalize w4.heap.size = cb at *
  have k0 := hc5.cell 0
  have k16 := hq5.cell 16
  have k17 := hq5.cell 17
  have p16 := hPS5.cell 16
  have p17 := hPS5.cell 17
  have f16 := hPS5.frozen 16
  have f17 := hPS5.frozen 17
  go_region
  have hPS6 : At ((w5.setCell ⟨PS, 16, none⟩ .nilFunc).setCell ⟨PS, 17, none⟩ (.pointer yo)).drew PS (set79 .nilFunc (.pointer yo)) 79 := ((hPS5.set 16 _).set 17 _).drew
  have hE6 := ((hE5.other (a := ⟨PS, 16, none⟩) (hE5.ne hPS5 (by decide)) .nilFunc).other (a := ⟨PS, 17, none⟩) (hE5.ne hPS5 (by decide)) (.pointer yo)).drew
  have hCM6 := ((hCM5.other (a := ⟨PS, 16, none⟩) (hCM5.ne hPS5 (by decide)) .nilFunc).other (a := ⟨PS, 17, none⟩) (hCM5.ne hPS5 (by decide)) (.pointer yo)).drew
  have hGOT6 := ((hGOT5.other (a := ⟨PS, 16, none⟩) (hGOT5.ne hPS5 (by decide)) .nilFunc).other (a := ⟨PS, 17, none⟩) (hGOT5.ne hPS5 (by decide)) (.pointer yo)).drew
  have hCF6 := ((hCF5.other (a := ⟨PS, 16, none⟩) (hCF5.ne hPS5 (by decide)) .nilFunc).other (a := ⟨PS, 17, none⟩) (hCF5.ne hPS5 (by decide)) (.pointer yo)).drew
  have hCE6 := ((hCE5.other (a := ⟨PS, 16, none⟩) (hCE5.ne hPS5 (by decide)) .nilFunc).other (a := ⟨PS, 17, none⟩) (hCE5.ne hPS5 (by decide)) (.pointer yo)).drew
  have hNC6 := ((hNC5.other (a := ⟨PS, 16, none⟩) (hNC5.ne hPS5 (by decide)) .nilFunc).other (a := ⟨PS, 17, none⟩) (hNC5.ne hPS5 (by decide)) (.pointer yo)).drew
  have hc6 := ((hc5.other (a := ⟨PS, 16, none⟩) (hc5.ne hPS5 (by decide)) .nilFunc).other (a := ⟨PS, 17, none⟩) (hc5.ne hPS5 (by decide)) (.pointer yo)).drew
  have b7 := ((b6.setCell (p := ⟨PS, 16, none⟩) (.inl (by simp)) .nilFunc).setCell (p := ⟨PS, 17, none⟩) (.inl (by simp)) (.pointer yo)).drew
  clear k0 k16 k17 p16 p17 f16 f17
  generalize ((w5.setCell ⟨PS, 16, none⟩ .nilFunc).setCell ⟨PS, 17, none⟩ (.pointer yo)).drew = w6 at *
  have e4 := hE6.cell 4
  have k0 := hc6.cell 0
  have k1 := hc6.cell 1
  have k2 := hc6.cell 2
  have qf := neq39
  go_wp2_with fail
  refine wp_calm ?_
  go_region_with (go_at_call 11; refine (commit11' CM GOT CF CE _ nm rm cf ce _ _ _ w6.drew hCM6.drew hGOT6.drew hCF6.drew hCE6.drew (hCF6.ne hCM6 (by decide)) _ rfl).mono ?_; rintro e w7 ⟨r, rfl, hr, b8, hCM7, hGOT7⟩)
  all_goals
    simp only [Calm]
    have hE7 := hE6.drew.but b8 (by simp; exact ⟨hE6.ne hCM6 (by decide), hE6.ne hGOT6 (by decide)⟩)
    have hPS7 := hPS6.drew.but b8 (by simp; exact ⟨hPS6.ne hCM6 (by decide), hPS6.ne hGOT6 (by decide)⟩)
    have hNC7 := hNC6.drew.but b8 (by simp; exact ⟨nNC, hNC6.ne hGOT6 (by decide)⟩)
    have hc7 := hc6.drew.but b8 (by simp; exact ⟨hc6.ne hCM6 (by decide), by omega⟩)
    have b9 := b7.drew.trans (b8.mono (by simp))
    clear e4 k0 k1 k2
    cases cf with
    | true =>
      obtain rfl : r = _ := hr.out
      simp only [if_true]
      go_wp2_with fail
      refine leaves_cons (f := 14) (args := #[.pointer (some ⟨E, 1, none⟩)]) (by simp) (by simp [go_sem]) ?_
      refine (unlock_deferred Yba.muLib ⟨E, 1, none⟩ .returning _ (hE7.cell 1) (hE7.frozen 1)).mono ?_
      rintro e u' w'' ⟨rfl, rfl, rfl⟩
      exact ⟨_, results_tmp rfl _ _ _, rfl, b9.setCell (.inl (by simp)) _, hE7.set 1 _, hCM7.other (hCM7.ne hE7 (by decide)) _, hGOT7.other (hGOT7.ne hE7 (by decide)) _, hNC7.other (hNC7.ne hE7 (by decide)) _, hPS7.other (hPS7.ne hE7 (by decide)) _⟩
    | false =>
      obtain rfl : r = _ := hr.out
      simp only [Bool.false_eq_true, if_false]
      have e0 := hE7.cell 0
      have z0 := hE7.frozen 0
      have k0 := hc7.cell 0
      have p0 := hPS7.cell 0
      go_wp2_with fail
      refine wp_calm ?_
      go_region_with (go_at_call 7; refine (store_some E PS _ _ w7.drew (hE7.drew.cell 0) (hE7.drew.frozen 0) (hPS7.drew.cell 0)).mono ?_; rintro e w9 ⟨rfl, rfl⟩)
      simp only [Calm]
      have hE9 := (hE7.set 0 (.pointer (some ⟨PS, 0, none⟩))).drew
      have hNC9 := (hNC7.other (a := ⟨E, 0, none⟩) (hNC7.ne hE7 (by decide)) (.pointer (some ⟨PS, 0, none⟩))).drew
      have hPS9 := (hPS7.other (a := ⟨E, 0, none⟩) (hPS7.ne hE7 (by decide)) (.pointer (some ⟨PS, 0, none⟩))).drew
      have hCM9 := (hCM7.other (a := ⟨E, 0, none⟩) (hCM7.ne hE7 (by decide)) (.pointer (some ⟨PS, 0, none⟩))).drew
      have hGOT9 := (hGOT7.other (a := ⟨E, 0, none⟩) (hGOT7.ne hE7 (by decide)) (.pointer (some ⟨PS, 0, none⟩))).drew
      have b10 := (b9.setCell (p := ⟨E, 0, none⟩) (.inl (by simp)) (.pointer (some ⟨PS, 0, none⟩))).drew
      clear e0 z0 k0 p0
      generalize (w7.setCell ⟨E, 0, none⟩ (.pointer (some ⟨PS, 0, none⟩))).drew = w9 at *
      go_wp2_with fail
      refine leaves_cons (f := 14) (args := #[.pointer (some ⟨E, 1, none⟩)]) (by simp) (by simp [go_sem]) ?_
      refine (unlock_deferred Yba.muLib ⟨E, 1, none⟩ .returning _ (hE9.cell 1) (hE9.frozen 1)).mono ?_
      rintro e u' w'' ⟨rfl, rfl, rfl⟩
      exact ⟨_, results_tmp rfl _ _ _, rfl, b10.setCell (.inl (by simp)) _, hE9.set 1 _, hCM9.other (hCM9.ne hE9 (by decide)) _, hGOT9.other (hGOT9.ne hE9 (by decide)) _, hNC9.other (hNC9.ne hE9 (by decide)) _, hPS9.other (hPS9.ne hE9 (by decide)) _⟩
end Go.Proofs.Ybulkddrk
