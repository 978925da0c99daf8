import Derived.Test.YbulkddrkSeq4
namespace Go.Proofs.Ybulkddrk
open Go.RowKit Go.MuLone

theorem run_convert_lock {a : Addr} {v : Value} {w : World} (h : w.cell? a = some v) :
    (convert 138 27 (.pointer (some a))).run Yba.prog w = .ok (.pointer (some a)) w := by
  obtain ⟨e, n, hsh, hlt, hsp⟩ := World.shape?_of_cell? h
  have hsz : (Yba.prog.info? 33).map (fun i => decide (i.size = 0)) = some false := by kernel_rfl
  obtain ⟨i, hi, hz0⟩ := Option.map_eq_some_iff.1 hsz
  have hz : i.size ≠ 0 := by simpa using hz0
  have hge : ¬ (n ≤ a.off) := by omega
  simp only [convert, run_underlying Yba.underlying27, run_underlying Yba.underlying138, Sem.run_bind, Result.andThen]
  conv => lhs; arg 2; whnf
  simp only [Sem.run, Sem.bind, Sem.run_bind', Yba.underlying138, Sem.run_pure, Sem.run_bind, Result.andThen_ok, run_underlying Yba.underlying27]
  simp [Conv.seenAt, viewAt, cellsIn, sizeOf, typeInfo, hsh, hi, hz, hge]

set_option maxRecDepth 100000 in
set_option maxHeartbeats 800000 in
theorem itrylock (a : Addr) (w : World) (hc : w.cell? a = some (.int .i32 0)) (hz : w.frozen? a = false) :
    Calls Yba.prog 27 #[.pointer (some a)] w fun e w' => e = .returned (.bool true) ∧ w' = w.setCell a (.int .i32 1) := by
  have hd := disable Yba.muLib
  have he := enable Yba.muLib
  have ha := acquire Yba.muLib
  have hcas := run_call_cas_hit (P := Yba.prog) Yba.func38 (by kernel_rfl) (by kernel_rfl) (by kernel_rfl) .i32 (by kernel_rfl) (y := 1) hc hz
  have hc' : (w.setCell a (.int .i32 1)).cell? a = some (.int .i32 1) := by simp [go_sem, hc]
  have hcv := run_convert_lock hc'
  have b1 : bits BinOp.and IntKind.i32 0 5 = 0 := by kernel_rfl
  have b2 : bits BinOp.or IntKind.i32 0 1 = 1 := by kernel_rfl
  go_enter Yba.func27, Yba.ntmps27
  go_wp2
  go_ret
  exact ⟨rfl, rfl⟩

theorem trylock (a : Addr) (w : World) (hc : w.cell? a = some (.int .i32 0)) (hz : w.frozen? a = false) :
    Calls Yba.prog 13 #[.pointer (some a)] w fun e w' => e = .returned (.bool true) ∧ w' = w.setCell a (.int .i32 1) := by
  go_enter Yba.func13, Yba.ntmps13
  go_wp2_with (go_at_call 27; refine (itrylock _ _ ?_ ?_).mono ?_; exact hc; exact hz; rintro e w' ⟨rfl, rfl⟩)
  go_ret
  exact ⟨rfl, rfl⟩

/-- The committer of the one change: it counts, keeps what it was handed, and answers nil or its own error. -/
theorem commit11 (CM GOT CF CE : Nat) (p : Value) (s : ByteArray) (b cf : Bool) (ce : Addr) (c0 c1 c2 : Value) (w : World)
    (hCM : At w CM #[.int .i64 0] 3) (hGOT : At w GOT #[c0, c1, c2] 85) (hCF : At w CF #[.bool cf] 4) (hCE : At w CE #[.iface 118 (.pointer (some ce))] 82) (n1 : CF ≠ CM) (x : Option Addr) (hp : p = .pointer x) :
    Calls Yba.prog 11 #[.agg #[p, .string s, .bool b], .pointer (some ⟨CM, 0, none⟩), .pointer (some ⟨GOT, 0, none⟩), .pointer (some ⟨CF, 0, none⟩), .pointer (some ⟨CE, 0, none⟩)] w fun e w' =>
      e = .returned (if cf then .iface 118 (.pointer (some ce)) else .nilIface) ∧ But [CM, GOT] w w' ∧ At w' CM #[.int .i64 1] 3 ∧ At w' GOT #[p, .string s, .bool b] 85 := by
  subst hp
  have n2 := hGOT.ne hCM (by decide)
  have n3 := hCF.ne hGOT (by decide)
  have n4 := hCE.ne hGOT (by decide)
  have n5 := hCE.ne hCM (by decide)
  have c := hCM.cell 0; have z := hCM.frozen 0; have l1 := hCM.lt
  have g0 := hGOT.cell 0; have g1 := hGOT.cell 1; have g2 := hGOT.cell 2; have gz0 := hGOT.frozen 0; have gz1 := hGOT.frozen 1; have gz2 := hGOT.frozen 2; have l2 := hGOT.lt
  have k := hCF.cell 0; have l3 := hCF.lt
  have q := hCE.cell 0; have l4 := hCE.lt
  go_enter Yba.func11, Yba.ntmps11
  cases cf
  all_goals
    go_wp2
    go_ret
    refine ⟨rfl, ((((((But.refl _ _).setCell (.inl (by simp)) _).setCell (.inl (by simp)) _).setCell (.inl (by simp)) _).setCell (.inl (by simp)) _).alloc _), ?_, ?_⟩
    · exact ((((hCM.set 0 _).other (by simpa using n2.symm) _).other (by simpa using n2.symm) _).other (by simpa using n2.symm) _).alloc _
    · exact ((((hGOT.other (by simpa using n2) _).set 0 _).set 1 _).set 2 _).alloc _

set_option maxRecDepth 100000 in
/-- The one change's 'next', told to fail. -/
theorem next9_fails (q NC SR NE HS ST NF M NM RM : Nat) (cur : Option Addr) (hs : Bool) (y : Value) (ne : Addr) (w : World)
    (hq : At w q (set79 .nilFunc y) 79) (hNC : At w NC #[.int .i64 0] 3) (hNE : At w NE #[.iface 118 (.pointer (some ne))] 82) (hHS : At w HS #[.bool hs] 4) (hST : At w ST #[.pointer cur] 23) (hNF : At w NF #[.bool true] 4)
    (hx : (hs = true ∧ cur = some ⟨q, 0, none⟩) ∨ (hs = false ∧ y = .pointer none)) :
    Calls Yba.prog 9 #[.pointer (some ⟨q, 0, none⟩), .pointer (some ⟨NC, 0, none⟩), .pointer (some ⟨SR, 0, none⟩), .pointer (some ⟨NE, 0, none⟩), .pointer (some ⟨HS, 0, none⟩), .pointer (some ⟨ST, 0, none⟩), .pointer (some ⟨NF, 0, none⟩), .pointer (some ⟨M, 0, none⟩), .pointer (some ⟨NM, 0, none⟩), .pointer (some ⟨RM, 0, none⟩)] w fun e w' =>
      e = .returned (.tuple #[empty85, .iface 118 (.pointer (some ne))]) ∧ But [NC] w w' ∧ At w' NC #[.int .i64 1] 3 := by
  have n1 := hq.ne hNC (by decide)
  have n2 := hNE.ne hNC (by decide)
  have n3 := hHS.ne hNC (by decide)
  have n4 := hST.ne hNC (by decide)
  have n5 := hNF.ne hNC (by decide)
  have c1 := hNC.cell 0; have z1 := hNC.frozen 0; have l1 := hNC.lt
  have c2 := hNE.cell 0; have l2 := hNE.lt
  have c3 := hHS.cell 0; have l3 := hHS.lt
  have c4 := hST.cell 0; have l4 := hST.lt
  have c5 := hNF.cell 0; have l5 := hNF.lt
  have c6 := hq.cell 0; have c7 := hq.cell 17; have l6 := hq.lt
  have hnq := neq23
  rcases hx with ⟨rfl, rfl⟩ | ⟨rfl, rfl⟩
  · go_enter Yba.func9, Yba.ntmps9
    go_wp2
    go_region
    go_wp2
    exact bodyPost_ret (v := .tuple #[empty85, .iface 118 (.pointer (some ne))]) (by simp [results, Yba.results9, go_sem]) rfl ⟨rfl, ((((But.refl _ _).setCell (.inl (by simp)) _).alloc _).drew), ((hNC.set 0 _).alloc _).drew⟩
  · have hp' : ∀ o, ((w.setCell ⟨NC, 0, none⟩ (.int .i64 1)).alloc o).cell? ⟨q, 0, none⟩ = some (.slice none 0 0) := fun o => by
      rw [((Below.refl (w.setCell ⟨NC, 0, none⟩ (.int .i64 1)).heap.size _).alloc (Nat.le_refl _) o).cell (p := ⟨q, 0, none⟩) (by simpa using l6)]
      exact (hq.other (by simpa using n1) _).cell 0
    go_enter Yba.func9, Yba.ntmps9
    go_wp2_with (go_at_call 10; refine (len_zero q _ (hp' _)).mono ?_; rintro e w' ⟨rfl, rfl⟩)
    go_region
    go_wp2
    exact bodyPost_ret (v := .tuple #[empty85, .iface 118 (.pointer (some ne))]) (by simp [results, Yba.results9, go_sem]) rfl ⟨rfl, ((((But.refl _ _).setCell (.inl (by simp)) _).alloc _).drew), ((hNC.set 0 _).alloc _).drew⟩

set_option maxRecDepth 100000 in
/-- The one change's 'next', told to pass. -/
theorem next9_ok (q NC SR NE HS ST NF M NM RM : Nat) (cur : Option Addr) (hs : Bool) (y : Value) (PS : Nat) (nm : ByteArray) (rm : Bool) (w : World)
    (hq : At w q (set79 .nilFunc y) 79) (hNC : At w NC #[.int .i64 0] 3) (hM : At w M #[.pointer (some ⟨PS, 0, none⟩)] 23) (hNM : At w NM #[.string nm] 9) (hRM : At w RM #[.bool rm] 4) (hHS : At w HS #[.bool hs] 4) (hST : At w ST #[.pointer cur] 23) (hNF : At w NF #[.bool false] 4)
    (hx : (hs = true ∧ cur = some ⟨q, 0, none⟩) ∨ (hs = false ∧ y = .pointer none)) :
    Calls Yba.prog 9 #[.pointer (some ⟨q, 0, none⟩), .pointer (some ⟨NC, 0, none⟩), .pointer (some ⟨SR, 0, none⟩), .pointer (some ⟨NE, 0, none⟩), .pointer (some ⟨HS, 0, none⟩), .pointer (some ⟨ST, 0, none⟩), .pointer (some ⟨NF, 0, none⟩), .pointer (some ⟨M, 0, none⟩), .pointer (some ⟨NM, 0, none⟩), .pointer (some ⟨RM, 0, none⟩)] w fun e w' =>
      e = .returned (.tuple #[.agg #[.pointer (some ⟨PS, 0, none⟩), .string nm, .bool rm], .nilIface]) ∧ But [NC] w w' ∧ At w' NC #[.int .i64 1] 3 := by
  have n1 := hq.ne hNC (by decide)
  have n2 := hM.ne hNC (by decide)
  have n6 := hNM.ne hNC (by decide)
  have n7 := hRM.ne hNC (by decide)
  have n3 := hHS.ne hNC (by decide)
  have n4 := hST.ne hNC (by decide)
  have n5 := hNF.ne hNC (by decide)
  have c1 := hNC.cell 0; have z1 := hNC.frozen 0; have l1 := hNC.lt
  have c2 := hM.cell 0; have l2 := hM.lt
  have c8 := hNM.cell 0; have l8 := hNM.lt
  have c9 := hRM.cell 0; have l9 := hRM.lt
  have c3 := hHS.cell 0; have l3 := hHS.lt
  have c4 := hST.cell 0; have l4 := hST.lt
  have c5 := hNF.cell 0; have l5 := hNF.lt
  have c6 := hq.cell 0; have c7 := hq.cell 17; have l6 := hq.lt
  have hnq := neq23
  rcases hx with ⟨rfl, rfl⟩ | ⟨rfl, rfl⟩
  · go_enter Yba.func9, Yba.ntmps9
    go_wp2
    exact bodyPost_ret (v := .tuple #[.agg #[.pointer (some ⟨PS, 0, none⟩), .string nm, .bool rm], .nilIface]) (by simp [results, Yba.results9, go_sem]) rfl ⟨rfl, (((But.refl _ _).setCell (.inl (by simp)) _).alloc _), (hNC.set 0 _).alloc _⟩
  · have hp' : ∀ o, ((w.setCell ⟨NC, 0, none⟩ (.int .i64 1)).alloc o).cell? ⟨q, 0, none⟩ = some (.slice none 0 0) := fun o => by
      rw [((Below.refl (w.setCell ⟨NC, 0, none⟩ (.int .i64 1)).heap.size _).alloc (Nat.le_refl _) o).cell (p := ⟨q, 0, none⟩) (by simpa using l6)]
      exact (hq.other (by simpa using n1) _).cell 0
    go_enter Yba.func9, Yba.ntmps9
    go_wp2_with (go_at_call 10; refine (len_zero q _ (hp' _)).mono ?_; rintro e w' ⟨rfl, rfl⟩)
    exact bodyPost_ret (v := .tuple #[.agg #[.pointer (some ⟨PS, 0, none⟩), .string nm, .bool rm], .nilIface]) (by simp [results, Yba.results9, go_sem]) rfl ⟨rfl, (((But.refl _ _).setCell (.inl (by simp)) _).alloc _), (hNC.set 0 _).alloc _⟩
end Go.Proofs.Ybulkddrk
