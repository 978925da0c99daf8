import Derived.Test.YbulkddrkOne4
namespace Go.Proofs.Ybulkddrk
open Go.RowKit Go.MuLone

set_option maxRecDepth 100000 in
set_option maxHeartbeats 3200000 in
theorem one_false (hcm nf cf rm : Bool) (nm : ByteArray) (w : World) :
    Calls Yba.prog 3 #[.bool false, .bool hcm, .bool nf, .bool cf, .bool rm, .string nm] w fun e w' => e = .returned (.bool true) ∧ Below w.heap.size w w' := by
  have hmf : ∀ (fn : Fn) (first cap : Array Value) (w : World), (Instr.makeFunc fn first cap).run Yba.prog w = .ok (.func fn first cap) w := fun _ _ _ _ => rfl
  have q1 := eql23o
  have q2 := neq23o
  have q3 := neq42o
  have q4 := neq55
  have q5 := eql82
  go_enter Yba.func3, Yba.ntmps3
  go_wp2_with fail
  obtain ⟨V, hW⟩ : ∃ W, W = W0 w false nf cf rm nm none := ⟨_, rfl⟩
  have P : Pre w V none none false nf cf rm nm := hW ▸ pre_false w nf cf rm nm
  unfold W0 at hW
  rw [← hW]
  clear hW
  have e4 := (P.hE.x0 (V0 := V)).cell 4
  have z4 := (P.hE.x0 (V0 := V)).frozen 4
  unfold X0 at e4 z4
  cases hcm with
  | true =>
    go_wp2_with (go_at_call 8; refine (errorsNew _ _).mono ?_; rintro e w' ⟨rfl, rfl⟩)
    have D := P.mid.com (.func (.func 11) #[] #[.pointer (some ⟨V.heap.size + 1 + 1 + 1 + 1 + 1 + 1 + 1 + 1, 0, none⟩), .pointer (some ⟨V.heap.size + 1 + 1 + 1 + 1 + 1 + 1 + 1 + 1 + 1, 0, none⟩), .pointer (some ⟨w.heap.size + 1 + 1, 0, none⟩), .pointer (some ⟨V.heap.size + 1 + 1 + 1, 0, none⟩)])
    change Calls _ _ _ ((X0 V V).setCell ⟨w.heap.size + 1 + 1 + 1 + 1 + 1, 4, none⟩ (.func (.func 11) #[] #[.pointer (some ⟨V.heap.size + 1 + 1 + 1 + 1 + 1 + 1 + 1 + 1, 0, none⟩), .pointer (some ⟨V.heap.size + 1 + 1 + 1 + 1 + 1 + 1 + 1 + 1 + 1, 0, none⟩), .pointer (some ⟨w.heap.size + 1 + 1, 0, none⟩), .pointer (some ⟨V.heap.size + 1 + 1 + 1, 0, none⟩)])) _
    clear e4 z4 P
    generalize (X0 V V).setCell ⟨w.heap.size + 1 + 1 + 1 + 1 + 1, 4, none⟩ (.func (.func 11) #[] #[.pointer (some ⟨V.heap.size + 1 + 1 + 1 + 1 + 1 + 1 + 1 + 1, 0, none⟩), .pointer (some ⟨V.heap.size + 1 + 1 + 1 + 1 + 1 + 1 + 1 + 1 + 1, 0, none⟩), .pointer (some ⟨w.heap.size + 1 + 1, 0, none⟩), .pointer (some ⟨V.heap.size + 1 + 1 + 1, 0, none⟩)]) = X at *
    have hlt := D.lt
    cases nf with
    | true =>
      refine (change9_fails (w.heap.size + 1 + 1 + 1 + 1 + 1) _ _ _ _ _ _ _ _ _ none none false ⟨V.heap.size, 0, none⟩ (.func (.func 11) #[] #[.pointer (some ⟨V.heap.size + 1 + 1 + 1 + 1 + 1 + 1 + 1 + 1, 0, none⟩), .pointer (some ⟨V.heap.size + 1 + 1 + 1 + 1 + 1 + 1 + 1 + 1 + 1, 0, none⟩), .pointer (some ⟨w.heap.size + 1 + 1, 0, none⟩), .pointer (some ⟨V.heap.size + 1 + 1 + 1, 0, none⟩)]) X D.hE D.hcur D.hNC D.hNE D.hHS D.hST D.hNF).mono ?_
      rintro e X1 ⟨rfl, bt, hE, hNC⟩
      have hb := D.below.trans (bt.toBelow D.below.size (by simp; omega))
      have hcur1 := D.hcur.but bt (fun p hp => by have h1 := D.fresh p hp; have h2 := D.hcur.ne D.hE (by decide) p hp; simp; omega)
      have hNE := D.hNE.but bt (by simp; omega)
      have hST := D.hST.but bt (by simp; omega)
      have hNF := D.hNF.but bt (by simp; omega)
      have hSR := D.hSR.but bt (by simp; omega)
      have hCM := D.hCM.but bt (by simp; omega)
      have d1 := hNE.cell 0; have d2 := hST.cell 0; have d3 := hNF.cell 0; have d4 := hSR.cell 0; have d5 := hCM.cell 0; have d6 := hNC.cell 0
      go_wp2_with (first | (go_at_call 13; refine (trylock _ _ (hE.cell 1) (hE.frozen 1)).mono ?_; rintro e w' ⟨rfl, rfl⟩) | (go_at_call 14; refine (unlock2 _ _ _ _ hE).mono ?_; rintro e w' ⟨rfl, rfl⟩) | (go_at_call 15; refine (hcur1.load hE).mono ?_; rintro e w' ⟨rfl, rfl⟩))
      go_ret
      exact ⟨rfl, hb⟩
    | false =>
      refine (change9_commit (w.heap.size + 1 + 1 + 1 + 1 + 1) _ _ _ _ _ _ _ _ _ (V.heap.size + 1 + 1 + 1 + 1) (V.heap.size + 1 + 1 + 1 + 1 + 1 + 1 + 1 + 1) (V.heap.size + 1 + 1 + 1 + 1 + 1 + 1 + 1 + 1 + 1) (w.heap.size + 1 + 1) (V.heap.size + 1 + 1 + 1) cf ⟨V.heap.size + 1 + 1, 0, none⟩ _ _ _ none none false nm rm X D.hE D.hcur D.hNC D.hHS D.hST D.hNF D.hM D.hNM D.hRM D.hPS D.hCM D.hGOT D.hCF D.hCE (by omega)).mono ?_
      rintro e X1 ⟨he, bt, hE, hCM, hGOT, hNC, hPS⟩
      have hb := D.below.trans (bt.toBelow D.below.size (by simp; omega))
      have hcur1 := D.hcur.but bt (fun p hp => by have h1 := D.fresh p hp; have h2 := D.hcur.ne D.hE (by decide) p hp; simp; omega)
      have hHS := D.hHS.but bt (by simp; omega)
      have hM := D.hM.but bt (by simp; omega)
      have hNF := D.hNF.but bt (by simp; omega)
      have hSR := D.hSR.but bt (by simp; omega)
      have hCF := D.hCF.but bt (by simp; omega)
      have hRM := D.hRM.but bt (by simp; omega)
      have hNM := D.hNM.but bt (by simp; omega)
      have hCE := D.hCE.but bt (by simp; omega)
      have hST := D.hST.but bt (by simp; omega)
      have d1 := hHS.cell 0; have d2 := hM.cell 0; have d3 := hNF.cell 0; have d4 := hSR.cell 0; have d5 := hPS.cell 16; have d6 := hNC.cell 0; have d7 := hPS.cell 17
      have d8 := hCM.cell 0; have d9 := hGOT.cell 0; have d10 := hGOT.cell 1; have d11 := hGOT.cell 2; have d12 := hCF.cell 0; have d13 := hRM.cell 0; have d14 := hNM.cell 0; have d15 := hCE.cell 0; have d16 := hST.cell 0
      cases cf with
      | true =>
        simp only [if_true] at he hE
        subst he
        go_wp2_with (first | (go_at_call 13; refine (trylock _ _ (hE.cell 1) (hE.frozen 1)).mono ?_; rintro e w' ⟨rfl, rfl⟩) | (go_at_call 14; refine (unlock2 _ _ _ _ hE).mono ?_; rintro e w' ⟨rfl, rfl⟩) | (go_at_call 15; refine (hcur1.load hE).mono ?_; rintro e w' ⟨rfl, rfl⟩))
        go_ret
        exact ⟨rfl, hb⟩
      | false =>
        simp only [Bool.false_eq_true, if_false] at he hE
        subst he
        go_wp2_with (first | (go_at_call 13; refine (trylock _ _ (hE.cell 1) (hE.frozen 1)).mono ?_; rintro e w' ⟨rfl, rfl⟩) | (go_at_call 14; refine (unlock2 _ _ _ _ hE).mono ?_; rintro e w' ⟨rfl, rfl⟩) | (go_at_call 15; refine (load_some (w.heap.size + 1 + 1 + 1 + 1 + 1) (V.heap.size + 1 + 1 + 1 + 1) _ _ (hE.cell 0) hPS rfl).mono ?_; rintro e w' ⟨rfl, rfl⟩))
        go_ret
        exact ⟨rfl, hb⟩
  | false =>
    go_wp2_with (go_at_call 8; refine (errorsNew _ _).mono ?_; rintro e w' ⟨rfl, rfl⟩)
    have D := P.mid
    change Calls _ _ _ (X0 V V) _
    clear e4 z4 P
    generalize X0 V V = X at *
    have hlt := D.lt
    cases nf with
    | true =>
      refine (change9_fails (w.heap.size + 1 + 1 + 1 + 1 + 1) _ _ _ _ _ _ _ _ _ none none false ⟨V.heap.size, 0, none⟩ (.nilFunc) X D.hE D.hcur D.hNC D.hNE D.hHS D.hST D.hNF).mono ?_
      rintro e X1 ⟨rfl, bt, hE, hNC⟩
      have hb := D.below.trans (bt.toBelow D.below.size (by simp; omega))
      have hcur1 := D.hcur.but bt (fun p hp => by have h1 := D.fresh p hp; have h2 := D.hcur.ne D.hE (by decide) p hp; simp; omega)
      have hNE := D.hNE.but bt (by simp; omega)
      have hST := D.hST.but bt (by simp; omega)
      have hNF := D.hNF.but bt (by simp; omega)
      have hSR := D.hSR.but bt (by simp; omega)
      have hCM := D.hCM.but bt (by simp; omega)
      have d1 := hNE.cell 0; have d2 := hST.cell 0; have d3 := hNF.cell 0; have d4 := hSR.cell 0; have d5 := hCM.cell 0; have d6 := hNC.cell 0
      go_wp2_with (first | (go_at_call 13; refine (trylock _ _ (hE.cell 1) (hE.frozen 1)).mono ?_; rintro e w' ⟨rfl, rfl⟩) | (go_at_call 14; refine (unlock2 _ _ _ _ hE).mono ?_; rintro e w' ⟨rfl, rfl⟩) | (go_at_call 15; refine (hcur1.load hE).mono ?_; rintro e w' ⟨rfl, rfl⟩))
      go_ret
      exact ⟨rfl, hb⟩
    | false =>
      refine (change9_plain (w.heap.size + 1 + 1 + 1 + 1 + 1) _ _ _ _ _ _ _ _ _ (V.heap.size + 1 + 1 + 1 + 1) none none false nm rm X D.hE D.hcur D.hNC D.hHS D.hST D.hNF D.hM D.hNM D.hRM D.hPS).mono ?_
      rintro e X1 ⟨rfl, bt, hE, hNC, hPS⟩
      have hb := D.below.trans (bt.toBelow D.below.size (by simp; omega))
      have hHS := D.hHS.but bt (by simp; omega)
      have hM := D.hM.but bt (by simp; omega)
      have hNF := D.hNF.but bt (by simp; omega)
      have hSR := D.hSR.but bt (by simp; omega)
      have d1 := hHS.cell 0; have d2 := hM.cell 0; have d3 := hNF.cell 0; have d4 := hSR.cell 0; have d5 := hPS.cell 16; have d6 := hNC.cell 0; have d7 := hPS.cell 17
      go_wp2_with (first | (go_at_call 13; refine (trylock _ _ (hE.cell 1) (hE.frozen 1)).mono ?_; rintro e w' ⟨rfl, rfl⟩) | (go_at_call 14; refine (unlock2 _ _ _ _ hE).mono ?_; rintro e w' ⟨rfl, rfl⟩) | (go_at_call 15; refine (load_some (w.heap.size + 1 + 1 + 1 + 1 + 1) (V.heap.size + 1 + 1 + 1 + 1) _ _ (hE.cell 0) hPS rfl).mono ?_; rintro e w' ⟨rfl, rfl⟩))
      go_ret
      exact ⟨rfl, hb⟩
end Go.Proofs.Ybulkddrk
