import Derived.Test.YbulkddrkSeq2
namespace Go.Proofs.Ybulkddrk
open Go.RowKit Go.MuLone

set_option maxRecDepth 100000 in
set_option maxHeartbeats 1600000 in
/-- One change that the committer refuses. -/
theorem change_commit_fails (E C F OK X NF M PS : Nat) (cur : Option Addr) (n : Int) (hn0 : 0 ≤ n) (hn1 : n < 9223372036854775807) (w : World) (hE : At w E (eng cur 0 (.func (.func 16) #[] #[.pointer (some ⟨C, 0, none⟩), .pointer (some ⟨F, 0, none⟩)])) 41) (hcur : ∀ a, cur = some a → ∃ p, a = ⟨p, 0, none⟩ ∧ At w p nil79 79)
    (hX : At w X #[.pointer cur] 23) (hNF : At w NF #[.bool false] 4) (hM : At w M #[.pointer (some ⟨PS, 0, none⟩)] 23) (hPS : At w PS nil79 79) (hC : At w C #[.int .i64 n] 3) (hF : At w F #[.bool true] 4)
    (nX : X ≠ E) (nNF : NF ≠ E) (nM : M ≠ E) (nPS : PS ≠ E) (nC : C ≠ E) (nF : F ≠ E) (nFC : F ≠ C) (ncur : ∀ p, cur = some ⟨p, 0, none⟩ → p ≠ E) :
    Calls Yba.prog 12 #[.pointer (some ⟨E, 0, none⟩), .func (.func 17) #[] #[.pointer (some ⟨OK, 0, none⟩), .pointer (some ⟨X, 0, none⟩), .pointer (some ⟨NF, 0, none⟩), .pointer (some ⟨M, 0, none⟩)]] w fun e w' =>
      (∃ a, e = .returned (.iface 118 (.pointer (some a)))) ∧ But [E, C] w w' ∧ At w' E (eng cur 0 (.func (.func 16) #[] #[.pointer (some ⟨C, 0, none⟩), .pointer (some ⟨F, 0, none⟩)])) 41 ∧ At w' C #[.int .i64 (n + 1)] 3 := by
  have c1 := hE.cell 1
  have f1 := hE.frozen 1
  go_enter_defers Yba.func12, Yba.ntmps12
  go_wp2_with (go_at_call 25; refine (lock_free Yba.muLib ⟨E, 1, none⟩ _ c1 f1).mono ?_; rintro e w' ⟨rfl, rfl⟩)
  have b1 : But [E, C] w (w.setCell ⟨E, 1, none⟩ (.int .i32 1)) := (But.refl _ _).setCell (.inl (by simp)) _
  have hE1 : At (w.setCell ⟨E, 1, none⟩ (.int .i32 1)) E (eng cur 1 (.func (.func 16) #[] #[.pointer (some ⟨C, 0, none⟩), .pointer (some ⟨F, 0, none⟩)])) 41 := hE.set 1 _
  have hcur1 : ∀ a, cur = some a → ∃ p, a = ⟨p, 0, none⟩ ∧ At (w.setCell ⟨E, 1, none⟩ (.int .i32 1)) p nil79 79 := by
    rintro a ha
    obtain ⟨p, rfl, hp⟩ := hcur a ha
    exact ⟨p, rfl, hp.other (by simpa using ncur p ha) _⟩
  have hX1 : At (w.setCell ⟨E, 1, none⟩ (.int .i32 1)) X _ _ := hX.other (by simpa using nX) _
  have hNF1 : At (w.setCell ⟨E, 1, none⟩ (.int .i32 1)) NF _ _ := hNF.other (by simpa using nNF) _
  have hM1 : At (w.setCell ⟨E, 1, none⟩ (.int .i32 1)) M _ _ := hM.other (by simpa using nM) _
  have hPS1 : At (w.setCell ⟨E, 1, none⟩ (.int .i32 1)) PS _ _ := hPS.other (by simpa using nPS) _
  have hC1 : At (w.setCell ⟨E, 1, none⟩ (.int .i32 1)) C _ _ := hC.other (by simpa using nC) _
  have hF1 : At (w.setCell ⟨E, 1, none⟩ (.int .i32 1)) F _ _ := hF.other (by simpa using nF) _
  generalize w.setCell ⟨E, 1, none⟩ (.int .i32 1) = w1 at *
  refine (policies_any E cur w1 (hE1.cell 0) hcur1).mono ?_
  rintro e w2 ⟨q, rfl, hq, b2, hcq⟩
  go_wp2_with fail
  refine (next_ok_any q OK X NF M PS cur w2 hq (hX1.below b2) (hNF1.below b2) (hM1.below b2) hcq).mono ?_
  rintro e w4 ⟨rfl, b4⟩
  have hE4 := (hE1.below b2).below b4
  have hPS4 := (hPS1.below b2).below b4
  have hC4 := (hC1.below b2).below b4
  have hF4 := (hF1.below b2).below b4
  have hq4 := hq.below b4
  have b5 := (b1.below b2).below b4
  go_wp2_with fail
  have hc5 := At.new w4 #[.pointer (some ⟨PS, 0, none⟩), .string ⟨#[]⟩, .bool false] 85
  have hE5 := hE4.alloc (.cells #[.pointer (some ⟨PS, 0, none⟩), .string ⟨#[]⟩, .bool false] 85)
  have hPS5 := hPS4.alloc (.cells #[.pointer (some ⟨PS, 0, none⟩), .string ⟨#[]⟩, .bool false] 85)
  have hC5 := hC4.alloc (.cells #[.pointer (some ⟨PS, 0, none⟩), .string ⟨#[]⟩, .bool false] 85)
  have hF5 := hF4.alloc (.cells #[.pointer (some ⟨PS, 0, none⟩), .string ⟨#[]⟩, .bool false] 85)
  have hq5 := hq4.alloc (.cells #[.pointer (some ⟨PS, 0, none⟩), .string ⟨#[]⟩, .bool false] 85)
  have b6 := b5.alloc (.cells #[.pointer (some ⟨PS, 0, none⟩), .string ⟨#[]⟩, .bool false] 85)
  have lE := hE4.lt; have lP := hPS4.lt; have lC := hC4.lt; have lF := hF4.lt
  generalize w4.alloc (.cells #[.pointer (some ⟨PS, 0, none⟩), .string ⟨#[]⟩, .bool false] 85) = w5 at *
  generalize w4.heap.size = cb at *
  have k0 := hc5.cell 0
  have k16 := hq5.cell 16
  have k17 := hq5.cell 17
  have p16 := hPS5.cell 16
  have p17 := hPS5.cell 17
  have f16 := hPS5.frozen 16
  have f17 := hPS5.frozen 17
  go_region
  rw [setCell_self hPS5 rfl, setCell_self hPS5 rfl]
  replace hE5 := hE5.drew; replace hPS5 := hPS5.drew; replace hC5 := hC5.drew; replace hF5 := hF5.drew; replace hc5 := hc5.drew; replace b6 := b6.drew
  clear k0 k16 k17 p16 p17 f16 f17
  generalize w5.drew = w6 at *
  have e0 := hE5.cell 0
  have e4 := hE5.cell 4
  have k0 := hc5.cell 0
  have k1 := hc5.cell 1
  have k2 := hc5.cell 2
  have qf := neq39
  go_wp2_with fail
  refine wp_calm ?_
  go_region_with (go_at_call 16; refine (commit_fails C F _ _ _ n w6.drew hn0 hn1 (hC5.drew.cell 0) (hC5.drew.frozen 0) (hF5.drew.cell 0) hC5.drew.lt hF5.drew.lt nFC).mono ?_; rintro e w7 ⟨⟨a, rfl⟩, b7⟩)
  all_goals
    simp only [Calm]
    have hC7 : At w7 C #[.int .i64 (n + 1)] 3 := (hC5.drew.set 0 _).under b7 hC5.drew.lt
    have hE7 := (hE5.drew.other (a := ⟨C, 0, none⟩) (by simpa using nC.symm) (.int .i64 (n + 1))).under b7 hE5.drew.lt
    have b8 := (b6.drew.setCell (p := ⟨C, 0, none⟩) (.inl (by simp)) (.int .i64 (n + 1))).under b7 b6.drew.size
    clear e0 e4 k0 k1 k2
    go_wp2_with fail
    refine leaves_cons (f := 14) (args := #[.pointer (some ⟨E, 1, none⟩)]) (by simp) (by simp [go_sem]) ?_
    refine (unlock_deferred Yba.muLib ⟨E, 1, none⟩ .returning _ (hE7.cell 1) (hE7.frozen 1)).mono ?_
    rintro e u' w'' ⟨rfl, rfl, rfl⟩
    exact ⟨_, results_tmp rfl _ _ _, ⟨a, rfl⟩, b8.setCell (.inl (by simp)) _, hE7.set 1 _, hC7.other (by simpa using nC) _⟩
end Go.Proofs.Ybulkddrk
