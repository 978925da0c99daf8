import Derived.Test.YbulkddtoFmtCards
import Derived.Test.YbulkddtoFmtTie
import Derived.Test.YbulkddtoFmtLaw
import Derived.ProofKit
import Derived.OpenShut
import Derived.LaidMore
import Derived.SevenTiedAt
import Derived.ChangeOld
import Derived.Below
import Derived.Deep.Slices
import Derived.Deep.DeepWitnessRef
import Derived.Stop.JoinedAt
import Derived.Stop.JoinedTold
import Derived.Stop.LaidErr
namespace Go.Proofs.YbulkddtoFmt.lawS5253CBuild
open Go.ChangeShapes Go.WideShapes Go.ChangeAt Go.RowKit Go.Deep Go.Kit
open Go.Extern.Stop Go.Stop Go.Extern
set_option linter.unusedVariables false
set_option linter.constructorNameAsVariable false

theorem own : ownKnob Ybaf.prog.godebug = none := by kernel_rfl
theorem laidOut : laidOutB Ybaf.pinned.checked.prog = true := by kernel_rfl
theorem stops : Ybaf.pinned.checked.prog.stops = ["fmt.errorf"] := by kernel_rfl
theorem stopKnobs : Ybaf.pinned.checked.prog.stopKnobs = [] := by kernel_rfl
theorem quiet (os : Os) : Stop.quiet Ybaf.pinned.checked.prog os := by
  intro k hk
  rw [stopKnobs] at hk
  cases hk
/-- The listed variable. -/
abbrev vName : String := Rows.lawS5253CBuildSpec.vars.headD ""
theorem gName : Ybaf.prog.globalNamed vName = some 0 := by kernel_rfl
theorem gType : (Ybaf.prog.globals[0]?).map (·.type) = some 44 := by kernel_rfl
theorem cells71 : Ybaf.prog.cellsOf 71 = 1 := by kernel_rfl
theorem cells9 : Ybaf.prog.cellsOf 9 = 1 := by kernel_rfl
theorem cells29 : Ybaf.prog.cellsOf 29 = 3 := by kernel_rfl
theorem cells5 : Ybaf.prog.cellsOf 5 = 1 := by kernel_rfl
theorem cells22 : Ybaf.prog.cellsOf 22 = 1 := by kernel_rfl
/-- One operation, opened. -/
theorem open_op {H : Type} {enc : TypeId × Value → H} {W : World} {base : Nat} {spare : Nat → Bool} {held : Bool} {fuel : Nat} {cs : List Value} {x : DataW H × List MemPlace}
    (h : DataW.trod enc Ybaf.prog W base spare held fuel 29 cs = some x) : ∃ o : Op3, cs = [.int .u8 o.op, .int .u64 o.v, .int .u8 o.m] ∧ 0 ≤ o.op ∧ o.op ≤ 255 := by
  obtain ⟨xs, m, _, _, hl, _, hf⟩ := DataW.trod_struct Ybaf.underlying29 h
  rw [cells29] at hl
  match cs, hl with
  | [c0, c1, c2], _ =>
    have hx : xs.length = 3 := by assumption
    match xs, hx with
    | [x0, x1, x2], _ =>
      have g0 := hf 0 _ rfl
      have g1 := hf 1 _ rfl
      have g2 := hf 2 _ rfl
      simp [cells5, cells22] at g0 g1 g2
      obtain ⟨a, e0, _, wa⟩ := DataW.trod_int Ybaf.underlying5 g0
      obtain ⟨r, e1, _⟩ := DataW.trod_int Ybaf.underlying22 g1
      obtain ⟨t, e2, _⟩ := DataW.trod_int Ybaf.underlying5 g2
      simp at e0 e1 e2
      simp [Lit.wf, IntKind.min, IntKind.max, IntKind.signed, IntKind.bits] at wa
      exact ⟨⟨a, r, t⟩, by rw [e0, e1, e2], by show 0 ≤ a; omega, by show a ≤ 255; omega⟩

theorem open_ops {H : Type} {enc : TypeId × Value → H} {W : World} {base : Nat} {spare : Nat → Bool} {held : Bool} {fuel : Nat} {a : Option Addr} {len cap : Nat} {x : DataW H × List MemPlace}
    (h : DataW.trod enc Ybaf.prog W base spare held fuel 23 [.slice a len cap] = some x) :
    ∃ (os : Nat → Op3) (b off : Nat), (0 < len → a = some ⟨b, off, none⟩) ∧ Ops W b off len os ∧ ∀ j, j < len → 0 ≤ (os j).op ∧ (os j).op ≤ 255 := by
  rcases open_slice Ybaf.underlying23 h with ⟨hcs, _⟩ | ⟨ad, l, c, m, n, D, Pl, hcs, _, hl, hm, hmm, _, hx⟩
  · simp at hcs
    obtain ⟨rfl, rfl, rfl⟩ := hcs
    exact ⟨fun _ => ⟨0, 0, 0⟩, 0, 0, fun h => absurd h (Nat.lt_irrefl _), fun k hk => absurd hk (Nat.not_lt_zero _), fun k hk => absurd hk (Nat.not_lt_zero _)⟩
  · simp at hcs
    obtain ⟨rfl, rfl, rfl⟩ := hcs
    have hlm : len ≤ m := by rw [hmm]; split <;> omega
    rw [cells29] at hx
    have key : ∀ i, i < len → ∃ q : Int × Int × Int, (∀ j, j < 3 → W.cell? ((ad.add (i * 3)).add j) = [Value.int .u8 q.1, .int .u64 q.2.1, .int .u8 q.2.2][j]?) ∧ 0 ≤ q.1 ∧ q.1 ≤ 255 := fun i hi => by
      obtain ⟨cs', h1, h2⟩ := hx i (by omega)
      obtain ⟨o, rfl, r0, r1⟩ := open_op h2
      obtain ⟨_, _, h3⟩ := World.cells?_some h1
      exact ⟨(o.op, o.v, o.m), h3, r0, r1⟩
    obtain ⟨f, hf⟩ := choose_lt (α := Int × Int × Int) key
    obtain ⟨b, off, spot⟩ := ad
    by_cases h0 : 0 < len
    · have hspot : spot = none := by
        have := World.cell?_spot (((hf 0 h0).1 0 (by omega)).trans rfl)
        simpa [Addr.add] using this
      subst hspot
      have hadd : ∀ k j, ((⟨b, off, none⟩ : Addr).add (k * 3)).add j = ⟨b, off + (k * 3 + j), none⟩ := fun k j => by rw [add_add, add_plain]
      refine ⟨fun i => ⟨(f i).1, (f i).2.1, (f i).2.2⟩, b, off, fun _ => rfl, fun k hk => ?_, fun k hk => (hf k hk).2⟩
      have e0 := (hf k hk).1 0 (by omega)
      have e1 := (hf k hk).1 1 (by omega)
      have e2 := (hf k hk).1 2 (by omega)
      rw [hadd] at e0 e1 e2
      exact ⟨e0, e1, e2⟩
    · obtain rfl : len = 0 := by omega
      exact ⟨fun _ => ⟨0, 0, 0⟩, 0, 0, fun h => absurd h (Nat.lt_irrefl _), fun k hk => absurd hk (Nat.not_lt_zero _), fun k hk => absurd hk (Nat.not_lt_zero _)⟩

/-- A slice longer than the law looks at. -/
theorem law_big (tb : Int) (ad : Option Addr) (n cap : Nat) (w : World) (hn : 1024 < n) : Calls Ybaf.prog 3 #[.int .u64 tb, .slice ad n cap] w fun e w' => e = .returned (.bool true) ∧ Below w.heap.size w w' := by
  go_enter Ybaf.func3, Ybaf.ntmps3
  go_wp2
  go_ret
  exact ⟨rfl, Below.refl _ _⟩

theorem door_met (os : Os) (args : Array Value) : laidMetH Ybaf.prog Rows.lawS5253CBuildRow.laid ((World.doorLaid Ybaf.prog 400 os).forCall (fun _ _ => 0) ⟨#[], args, []⟩).memory :=
  laidMetH_of_parts3 (fuel := 8) (laidMet_of_run' 8 (by kernel_rfl) (by kernel_rfl)) (by kernel_rfl) (by kernel_rfl)

set_option maxRecDepth 100000 in
theorem lifted (os : Os) (started : os.Started) (H : Type) (enc : TypeId × Value → H) :
    ReturnsInTold none {} Ybaf.checked os 3 .any Input.okWide ((OpenSpec.ofChange Rows.lawS5253CBuildSpec).preRow enc Ybaf.prog Ybaf.f3 [] false Rows.lawS5253CBuildRow.laid) (fun F => ((OpenSpec.ofChange Rows.lawS5253CBuildSpec).at F).post enc Ybaf.prog Ybaf.f3 false true false false) (aloneAtReturn Ybaf.prog) nothingAlways := by
  refine returnsInTold_of_row (C := Ybaf.checked) (s := OpenSpec.ofChange Rows.lawS5253CBuildSpec) (by kernel_rfl) own started (by kernel_rfl) Ybaf.func3
    (OpenSpec.witness_stopped_atRef (enc := enc) (C := Ybaf.checked) false (World.doorLaid Ybaf.prog 400 os) #[.int .u64 0, .slice none 0 0] rfl (by kernel_rfl) (by kernel_rfl) (by kernel_rfl)
      (OpenSpec.preRow_of_B rfl 8 (by kernel_rfl) (by kernel_rfl) (door_met os _))) ?_
  intro F W base args ds gs before _ hF hval0 hW hcnd0 _ _ hL0 _
  have hval : ∀ (j : Nat) t v, Ybaf.f3.params[j]? = some t → args[j]? = some v → Value.okWide Ybaf.prog W .any base t v := hval0
  have hW' := hW
  obtain ⟨p, q, hA0, hV0, rfl, hfz, hnd⟩ := hW
  have hA : DataW.TrodAll enc Ybaf.prog W 0 (fun _ => true) true Ybaf.f3.params.toList args.toList ds p := hA0
  have hV : DataW.TrodVars enc Ybaf.prog W (fun _ => true) [vName] gs q := hV0
  rw [Ybaf.params3] at hA hval
  obtain ⟨v0, vs0, d0, ds0, p0, q0, hargs, rfl, rfl, h0, r0⟩ := trodAll_cons hA
  obtain ⟨v1, vs1, d1, ds1, p1, q1, rfl, rfl, rfl, h1, r1⟩ := trodAll_cons r0
  obtain ⟨rfl, rfl, rfl⟩ := trodAll_nil r1
  obtain rfl : args = #[v0, v1] := by cases args; simp_all
  have hL : laidMet Ybaf.prog Rows.lawS5253CBuildRow.laid W := by rwa [MakeChecks.laidMetH_plain _ _ _ (by kernel_rfl)] at hL0
  obtain ⟨a1, s1, hv1, hc1, hs1, hz1⟩ := laid_sentinel hL gName gType Ybaf.underlying44 (fun u h => typeName_ptr_named (nm := "errors.errorString") (by kernel_rfl) (by kernel_rfl) (by decide) u (h.trans (congrArg some (by decide)))) Ybaf.underlying69 Ybaf.underlying71 rfl rfl Ybaf.underlying9 cells71 cells9
  obtain ⟨g, t, cs, fuel, d, p', rfl, hg, ht, hvar, hd, rfl⟩ := trodVars_one hV
  obtain rfl := Option.some.inj (gName.symm.trans hg)
  obtain rfl := Option.some.inj (gType.symm.trans ht)
  have hg1 : W.cell? ⟨0, 0, none⟩ = some (.iface 69 (.pointer (some a1))) := by simpa using World.var?_cell gName hv1 0
  have lt00 : 0 < W.heap.size := cell_lt hg1
  have k1 := h1
  have lt1 : ∀ x ∈ p1, x.block < W.heap.size := by obtain ⟨m, hm⟩ := k1; exact DataW.trod_lt m _ _ _ hm
  have kv : DataW.Trod enc Ybaf.prog W 0 (fun _ => true) true 44 (.agg cs) d p' := ⟨fuel, hd⟩
  have ltv : ∀ x ∈ p', x.block < W.heap.size := DataW.trod_lt fuel _ _ _ hd
  obtain ⟨a0, rfl, rfl, rfl, w0⟩ := open_int Ybaf.underlying22 (hval 0 22 v0 rfl rfl) h0
  obtain ⟨ad, len, cap, rfl⟩ := okWide_slice Ybaf.underlying23 (hval 1 23 v1 rfl rfl)
  have hcall : Calls Ybaf.prog 3 #[.int .u64 a0, .slice ad len cap] W fun e w' => e = .returned (.bool true) ∧ Below W.heap.size W w' := by
    by_cases hbig : 1024 < len
    · exact law_big a0 ad len cap W hbig
    · obtain ⟨m, hm⟩ := h1
      obtain ⟨os', b, off, hb, hO, hr⟩ := open_ops hm
      exact law_walk F.told os' len b off cap ad a0 a1 s1 W (by omega) hb hO hr hF hg1 hc1
  clear hA0 hV0 hval0
  refine hcall.mono fun e W' ⟨he, bel⟩ => ?_
  subst he
  have kv' := Below.trod laidOut (by kernel_rfl) (of_decide_eq_true (by kernel_rfl)) kv bel ltv
  obtain ⟨fuel', hd'⟩ := kv'
  have hvar' : W'.var? Ybaf.prog vName = some cs := by
    unfold World.var? at hvar ⊢
    rw [gName] at hvar ⊢
    simp only [Option.bind_some] at hvar ⊢
    rw [bel.block 0 lt00]
    exact hvar
  exact ⟨_, rfl, _, _, _, [], _, _, hW', trodAll_mk1 (shut_bool Ybaf.underlying4 _),
    (trodAll_cons_mk (shut_int Ybaf.underlying22 w0) (trodAll_cons_mk (Below.trod laidOut (by kernel_rfl) (of_decide_eq_true (by kernel_rfl)) k1 bel lt1) trodAll_mk0)),
    ⟨0, 44, cs, fuel', _, [], hg, ht, hvar', hd', rfl, rfl⟩, bel.frame _, fun h => by cases h⟩

theorem proved : Rows.LawS5253CBuildToldSaid :=
  Claim7.holds_of_told_tied_any_at .later 3 Ybaf.f3 "fmt.errorf" [] [] _ _ _ _ _ (by kernel_rfl) rfl rfl rfl laidOut (by kernel_rfl) rfl ⟨rfl, rfl, rfl, rfl, rfl, rfl, rfl⟩ rfl rfl (by kernel_rfl) (by kernel_rfl) Ybaf.func3 (by kernel_rfl)
    (of_decide_eq_true (by kernel_rfl)) (of_decide_eq_true (by kernel_rfl)) stops.symm rfl stopKnobs.symm (by kernel_rfl)
    (by kernel_rfl) (by kernel_rfl) (by kernel_rfl) (by kernel_rfl) (by kernel_rfl) (by kernel_rfl) (by kernel_rfl) (by kernel_rfl) (by kernel_rfl) rfl (by kernel_rfl) rfl rfl
    rfl rfl
    rfl (by kernel_rfl) (by kernel_rfl) (by kernel_rfl) (by decide) (by kernel_rfl) lawS5253CBuild_row_tie
    (OpenClaim.moreEntering_of (by kernel_rfl) (by kernel_rfl) (by kernel_rfl) (by kernel_rfl) (by kernel_rfl) (by kernel_rfl) (by kernel_rfl) (by kernel_rfl) (by kernel_rfl) (by kernel_rfl))
    ⟨_, WideRow.started_initial, quiet _⟩
    (fun os started _ H enc _ => lifted os started H enc)
#print axioms proved
end Go.Proofs.YbulkddtoFmt.lawS5253CBuild
