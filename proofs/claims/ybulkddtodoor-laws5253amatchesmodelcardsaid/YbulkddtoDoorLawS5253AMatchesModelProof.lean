import Derived.Test.YbulkddtoDoorCards
import Derived.Test.YbulkddtoDoorTie
import Derived.Test.YbulkddtoDoorLaw
import Derived.ProofKit
import Derived.OpenShut
import Derived.LaidMore
import Derived.Lay
import Derived.SevenTiedAt
import Derived.Stop.Joined
import Derived.ChangeOld
import Derived.Below
namespace Go.Proofs.YbulkddtoDoor.lawS5253AMatchesModel
open Go.ChangeShapes Go.WideShapes Go.ChangeAt Go.RowKit
set_option linter.unusedVariables false
set_option linter.constructorNameAsVariable false

theorem own : ownKnob Ybad.prog.godebug = none := by kernel_rfl
theorem laidOut : laidOutB Ybad.prog = true := by kernel_rfl
theorem c4 : Ybad.prog.cellsOf 4 = 1 := by kernel_rfl
theorem c21 : Ybad.prog.cellsOf 21 = 1 := by kernel_rfl
theorem c22 : Ybad.prog.cellsOf 22 = 5 := by kernel_rfl
theorem c65 : Ybad.prog.cellsOf 65 = 5 := by kernel_rfl
/-- The listed variable. -/
abbrev vName : String := Rows.lawS5253AMatchesModelSpec.vars.headD ""
theorem gName : Ybad.prog.globalNamed vName = some 0 := by kernel_rfl
theorem gType : (Ybad.prog.globals[0]?).map (·.type) = some 66 := by kernel_rfl

def rowsD {H : Type} : List (DataW H) := [.agg [.lit (.bool false), .lit (.bool false), .lit (.bool false), .lit (.bool true), .lit (.bool false)], .agg [.lit (.bool false), .lit (.bool false), .lit (.bool true), .lit (.bool true), .lit (.bool false)], .agg [.lit (.bool false), .lit (.bool true), .lit (.bool false), .lit (.bool true), .lit (.bool true)], .agg [.lit (.bool true), .lit (.bool true), .lit (.bool true), .lit (.bool true), .lit (.bool true)], .agg [.lit (.bool false), .lit (.bool false), .lit (.bool true), .lit (.bool true), .lit (.bool true)]]
theorem rowsD_at {H : Type} {i : Nat} (hi : i < 5) : (rowsD (H := H))[i]? = some (.agg ((List.range 5).map fun j => .lit (.bool (tab i j)))) := by
  have h1 : i = 0 ∨ i = 1 ∨ i = 2 ∨ i = 3 ∨ i = 4 := by omega
  rcases h1 with rfl | rfl | rfl | rfl | rfl <;> rfl

theorem tab_of_laid {W : World} (h : laidMetH Ybad.prog Rows.lawS5253AMatchesModelRow.laid W) : Tab W := by
  rw [MakeChecks.laidMetH_plain _ _ _ (by kernel_rfl)] at h
  obtain ⟨ps, ⟨g, t, cs, fuel, p, q, hg, ht, hv, hd, _, _⟩, _, _⟩ := h
  obtain rfl := Option.some.inj (gName.symm.trans hg)
  obtain rfl := Option.some.inj (gType.symm.trans ht)
  obtain ⟨xs, m, _, ex, _, hl, hel⟩ := DataW.trod_array Ybad.underlying66 hd
  intro i j hi hj
  have hE := hel i hi
  rw [c65, List.getElem?_eq_getElem (by omega)] at hE
  obtain ⟨ys, m2, _, ey, hlen, hl2, hel2⟩ := DataW.trod_array Ybad.underlying65 hE
  have hB := hel2 j hj
  rw [c4, Nat.mul_one, List.getElem?_eq_getElem (by omega)] at hB
  obtain ⟨b, e1, e2⟩ := DataW.trod_bool Ybad.underlying4 hB
  have e3 : xs.map (·.1) = rowsD := (DataW.agg.inj (Prod.mk.inj ex).1).symm
  have e4 : (xs.map (·.1))[i]? = some (.agg ((List.range 5).map fun j => .lit (.bool (tab i j)))) := by rw [e3]; exact rowsD_at hi
  rw [List.getElem?_map, List.getElem?_eq_getElem (by omega : i < xs.length), ey] at e4
  have e5 : ys.map (·.1) = (List.range 5).map fun j => .lit (.bool (tab i j)) := by simpa using e4
  have e6 : (ys.map (·.1))[j]? = some (.lit (.bool (tab i j))) := by rw [e5]; simp [hj]
  rw [List.getElem?_map, List.getElem?_eq_getElem (by omega : j < ys.length), e2] at e6
  have hb : b = tab i j := by simpa using e6
  rw [World.var?_cell hg hv (i * 5 + j), ← hb]
  have h0 : ((((cs.toList.drop (i * 5)).take 5).drop j).take 1)[0]? = some (.bool b) := by rw [e1]; rfl
  have : cs.toList[i * 5 + j]? = some (.bool b) := by
    simpa [List.getElem?_take, List.getElem?_drop, hj] using h0
  simpa using this

/-- An array of five int32 that came in. -/
theorem open_cnt {H : Type} {enc : TypeId × Value → H} {W : World} {r : Reach} {base b0 : Nat} {sp : Nat → Bool} {held : Bool} {v : Value} {d : DataW H} {ps : List MemPlace} (ho : Value.okWide Ybad.prog W r b0 22 v)
    (h : DataW.Trod enc Ybad.prog W base sp held 22 v d ps) : ∃ c : Nat → Int, v = .agg (cells5 c) := by
  simp only [Value.okWide, Ybad.underlying22] at ho
  obtain ⟨cs, rfl, hs, _⟩ := ho
  rw [c22] at hs
  obtain ⟨fuel, hd⟩ := h
  obtain ⟨xs, m, _, ex, _, hl, hel⟩ := DataW.trod_array Ybad.underlying22 hd
  have key : ∀ i, i < 5 → ∃ n : Int, cs[i]? = some (.int .i32 n) := by
    intro i hi
    have hE := hel i hi
    rw [c21, Nat.mul_one, List.getElem?_eq_getElem (by omega)] at hE
    obtain ⟨z, e1, e2, _⟩ := DataW.trod_int Ybad.underlying21 hE
    have h0 : ((cs.toList.drop i).take 1)[0]? = some (.int .i32 z) := by
      have e1' : ((cs.toList.drop i).take 1) = [Value.int .i32 z] := e1
      rw [e1']; rfl
    exact ⟨z, by simpa using h0⟩
  obtain ⟨n0, h0⟩ := key 0 (by omega)
  obtain ⟨n1, h1⟩ := key 1 (by omega)
  obtain ⟨n2, h2⟩ := key 2 (by omega)
  obtain ⟨n3, h3⟩ := key 3 (by omega)
  obtain ⟨n4, h4⟩ := key 4 (by omega)
  refine ⟨fun | 0 => n0 | 1 => n1 | 2 => n2 | 3 => n3 | _ => n4, ?_⟩
  congr 1
  apply Array.ext_getElem?
  intro i
  by_cases hi : i < 5
  · have hc : i = 0 ∨ i = 1 ∨ i = 2 ∨ i = 3 ∨ i = 4 := by omega
    rcases hc with rfl | rfl | rfl | rfl | rfl
    · exact h0
    · exact h1
    · exact h2
    · exact h3
    · exact h4
  · rw [Array.getElem?_eq_none (by omega), Array.getElem?_eq_none (by simp; omega)]

set_option maxRecDepth 100000 in
theorem lifted (os : Os) (started : os.Started) (H : Type) (enc : TypeId × Value → H) :
    ReturnsInHanded {} Ybad.checked os 3 .any (fun w args => (Rows.lawS5253AMatchesModelSpec.pre enc Ybad.prog Ybad.f3 Rows.lawS5253AMatchesModelRow.domain false w args ∧ laidMetH Ybad.prog Rows.lawS5253AMatchesModelRow.laid w) ∧ sizedMet enc Ybad.prog Ybad.f3 (OpenSpec.ofChange Rows.lawS5253AMatchesModelSpec) false w args)
      (Rows.lawS5253AMatchesModelSpec.post enc Ybad.prog Ybad.f3 false true false false) := by
  refine returnsInHanded_of_change_and (C := Ybad.checked) (X := fun w _ => laidMetH Ybad.prog Rows.lawS5253AMatchesModelRow.laid w) (fun _ _ _ hh h => h.of_heap hh) own started (by kernel_rfl) Ybad.func3
    (ChangeSpec.witness_shaped (enc := enc) (C := Ybad.checked) (os := os) (X := fun w _ => laidMetH Ybad.prog Rows.lawS5253AMatchesModelRow.laid w) false (World.laidAll Ybad.prog os Rows.lawS5253AMatchesModelRow.laid) #[.agg #[.int .i32 0, .int .i32 0, .int .i32 0, .int .i32 0, .int .i32 0], .agg #[.int .i32 0, .int .i32 0, .int .i32 0, .int .i32 0, .int .i32 0], .agg #[.int .i32 0, .int .i32 0, .int .i32 0, .int .i32 0, .int .i32 0], .int .u8 0, .int .u16 0, .bool false, .bool false] 8 (World.laidAll_os _ _ _)
      (World.shaped_of_ZipB (by kernel_rfl) (by kernel_rfl)) (by kernel_rfl) (by kernel_rfl) (by kernel_rfl)
      (by rw [MakeChecks.laidMetH_plain _ _ _ (by kernel_rfl)]; exact laidMet_laidAll _ (by kernel_rfl) (by kernel_rfl))) ?_
  intro W base args ds gs before hval0 hW hcnd _ hL _
  have hval : ∀ (j : Nat) t v, Ybad.f3.params[j]? = some t → args[j]? = some v → Value.okWide Ybad.prog W .any base t v := hval0
  have hW' := hW
  obtain ⟨p, q, hA0, hV0, rfl, hfz, hnd⟩ := hW
  have hA : DataW.TrodAll enc Ybad.prog W 0 (fun _ => true) true Ybad.f3.params.toList args.toList ds p := hA0
  have hV : DataW.TrodVars enc Ybad.prog W (fun _ => true) [vName] gs q := hV0
  rw [Ybad.params3] at hA hval
  obtain ⟨v0, vs0, d0, ds0, p0, q0, hargs, rfl, rfl, h0, r0⟩ := trodAll_cons hA
  obtain ⟨v1, vs1, d1, ds1, p1, q1, rfl, rfl, rfl, h1, r1⟩ := trodAll_cons r0
  obtain ⟨v2, vs2, d2, ds2, p2, q2, rfl, rfl, rfl, h2, r2⟩ := trodAll_cons r1
  obtain ⟨v3, vs3, d3, ds3, p3, q3, rfl, rfl, rfl, h3, r3⟩ := trodAll_cons r2
  obtain ⟨v4, vs4, d4, ds4, p4, q4, rfl, rfl, rfl, h4, r4⟩ := trodAll_cons r3
  obtain ⟨v5, vs5, d5, ds5, p5, q5, rfl, rfl, rfl, h5, r5⟩ := trodAll_cons r4
  obtain ⟨v6, vs6, d6, ds6, p6, q6, rfl, rfl, rfl, h6, r6⟩ := trodAll_cons r5
  obtain ⟨rfl, rfl, rfl⟩ := trodAll_nil r6
  obtain rfl : args = #[v0, v1, v2, v3, v4, v5, v6] := by cases args; simp_all
  obtain ⟨g, t, cs, fuel, d, p', rfl, hg, ht, hvar, hd, rfl⟩ := trodVars_one hV
  obtain rfl := Option.some.inj (gName.symm.trans hg)
  obtain rfl := Option.some.inj (gType.symm.trans ht)
  have k0 := h0
  have lt0 : ∀ x ∈ p0, x.block < W.heap.size := by obtain ⟨m, hm⟩ := k0; exact DataW.trod_lt m _ _ _ hm
  have k1 := h1
  have lt1 : ∀ x ∈ p1, x.block < W.heap.size := by obtain ⟨m, hm⟩ := k1; exact DataW.trod_lt m _ _ _ hm
  have k2 := h2
  have lt2 : ∀ x ∈ p2, x.block < W.heap.size := by obtain ⟨m, hm⟩ := k2; exact DataW.trod_lt m _ _ _ hm
  have kv : DataW.Trod enc Ybad.prog W 0 (fun _ => true) true 66 (.agg cs) d p' := ⟨fuel, hd⟩
  have ltv : ∀ x ∈ p', x.block < W.heap.size := DataW.trod_lt fuel _ _ _ hd
  obtain ⟨g0, rfl⟩ := open_cnt (hval 0 22 v0 rfl rfl) h0
  obtain ⟨g1, rfl⟩ := open_cnt (hval 1 22 v1 rfl rfl) h1
  obtain ⟨g2, rfl⟩ := open_cnt (hval 2 22 v2 rfl rfl) h2
  obtain ⟨a3, rfl, rfl, rfl, w3⟩ := open_int Ybad.underlying5 (hval 3 5 v3 rfl rfl) h3
  obtain ⟨a4, rfl, rfl, rfl, w4⟩ := open_int Ybad.underlying23 (hval 4 23 v4 rfl rfl) h4
  obtain ⟨b5, rfl, rfl, rfl⟩ := open_bool Ybad.underlying4 (hval 5 4 v5 rfl rfl) h5
  obtain ⟨b6, rfl, rfl, rfl⟩ := open_bool Ybad.underlying4 (hval 6 4 v6 rfl rfl) h6
  have hT := tab_of_laid hL
  have lt00 : 0 < W.heap.size := hT.lt
  clear hA0 hval0 hV0
  refine (law_any g0 g1 g2 a3 a4 b5 b6 W hT w3).mono fun e W' ⟨he, bel⟩ => ?_
  subst he
  have kv' := Below.trod laidOut (by kernel_rfl) (of_decide_eq_true (by kernel_rfl)) kv bel ltv
  obtain ⟨fuel', hd'⟩ := kv'
  have hvar' : W'.var? Ybad.prog vName = some cs := by
    unfold World.var? at hvar ⊢
    rw [gName] at hvar ⊢
    simp only [Option.bind_some] at hvar ⊢
    rw [bel.block 0 lt00]
    exact hvar
  exact ⟨_, rfl, _, _, _, [], _, _, hW', trodAll_mk1 (shut_bool Ybad.underlying4 _),
    (trodAll_cons_mk (Below.trod laidOut (by kernel_rfl) (of_decide_eq_true (by kernel_rfl)) k0 bel lt0)
    (trodAll_cons_mk (Below.trod laidOut (by kernel_rfl) (of_decide_eq_true (by kernel_rfl)) k1 bel lt1)
    (trodAll_cons_mk (Below.trod laidOut (by kernel_rfl) (of_decide_eq_true (by kernel_rfl)) k2 bel lt2)
    (trodAll_cons_mk (shut_int Ybad.underlying5 w3) (trodAll_cons_mk (shut_int Ybad.underlying23 w4) (trodAll_cons_mk (shut_bool Ybad.underlying4 _) (trodAll_cons_mk (shut_bool Ybad.underlying4 _) trodAll_mk0))))))),
    ⟨0, 66, cs, fuel', _, [], hg, ht, hvar', hd', rfl, rfl⟩, bel.frame _, fun h => by cases h⟩

theorem holds : Rows.LawS5253AMatchesModelSaid :=
  OpenClaim.holds_of_wide 3 Ybad.f3 rfl rfl rfl rfl rfl rfl rfl ⟨rfl, rfl, rfl, rfl, rfl⟩ rfl rfl rfl rfl rfl (by kernel_rfl) Ybad.func3 (by kernel_rfl)
    (of_decide_eq_true (by kernel_rfl)) (by unfold Func.isWrapper; first | (rw [if_pos (by decide +kernel)]; kernel_rfl) | (rw [if_neg (by decide +kernel)]; exact ⟨rfl, rfl⟩))
    (fun os started H enc _ => lifted os started H enc)

theorem proved : Rows.LawS5253AMatchesModelCardSaid :=
  Claim7.holds_tied_plain_at .later [] [.data] true (true, "092102910cc5a4fd3a1792c388fdffb5b7f730a69b0c3a793ea61bdf0061b1da") false holds (fun _ h => by cases h) (by kernel_rfl) (fun _ h => by cases h) lawS5253AMatchesModel_row_tie rfl ⟨rfl, rfl⟩ (by kernel_rfl) rfl
    (fun f fn hf hfn => by
      obtain rfl : f = 3 := Option.some.inj ((show Ybad.prog.funcNamed Rows.lawS5253AMatchesModelRow.func = some 3 by kernel_rfl).symm.trans hf) |>.symm
      obtain rfl : fn = Ybad.f3 := (Option.some.inj (Ybad.func3.symm.trans hfn)).symm
      exact ⟨by kernel_rfl, fun j t ht => by
        rw [Ybad.params3] at ht
        have hm : t ∈ [22, 22, 22, 5, 23, 4, 4] := by simpa using Array.mem_of_getElem? ht
        have hall : ([22, 22, 22, 5, 23, 4, 4].all fun u => !Ybad.prog.wantsStandIn u) = true := by kernel_rfl
        exact (show Ybad.prog.wantsStandIn t = false by simpa using List.all_eq_true.1 hall t hm)⟩)
    (by kernel_rfl)
#print axioms proved
end Go.Proofs.YbulkddtoDoor.lawS5253AMatchesModel
