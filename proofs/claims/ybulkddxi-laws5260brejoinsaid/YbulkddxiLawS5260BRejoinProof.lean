/- The law 'LawS5260BRejoin': the walk (YbulkddxiLawLoA, LawLoB, LawHiA, LawHiB) and the row's frame. -/
import Derived.Test.YbulkddxiRows
import Derived.Test.YbulkddxiLawLoA
import Derived.Test.YbulkddxiLawLoB
import Derived.Test.YbulkddxiLawHiA
import Derived.Test.YbulkddxiLawHiB
import Derived.WalkKit
import Derived.ProofKit
import Derived.OpenShut
import Derived.ShutString
import Derived.ChangeOld
import Derived.Below
namespace Go.Proofs.Ybulkddxi.lawS5260BRejoin
open Go.ChangeShapes Go.WideShapes Go.ChangeAt Go.RowKit
open Go.ChangeMaps (open_string shut_string)
set_option linter.unusedVariables false

theorem own : ownKnob Yba.prog.godebug = none := by kernel_rfl
theorem laidOut : laidOutB Yba.prog = true := by kernel_rfl

/-- WHAT THE WALK IS TOLD OF A SLICE OF INTEGERS THAT CAME IN: it is nil; or it leads to a row of 'cap' cells, the numbers 'zs' (the first 'len' are its elements, the rest its spare room), each fitting its kind. -/
def IsRow (k : IntKind) (w : World) (a : Option Addr) (len cap : Nat) (zs : List Int) : Prop :=
  (a = none ∧ len = 0 ∧ cap = 0 ∧ zs = []) ∨
  ∃ x, a = some x ∧ len ≤ cap ∧ cap ≤ maxLen ∧ zs.length = cap ∧ (∀ i, i < zs.length → w.cell? (x.add i) = some (.int k (zs.getD i 0))) ∧ ∀ n ∈ zs, (Lit.int k n).wf = true

theorem IsRow.come {w : World} {a : Option Addr} {len cap : Nat} {zs : List Int} (h : IsRow .u8 w a len cap zs) :
    ∃ b off, (0 < len → a = some ⟨b, off, none⟩) ∧ Come w b off len (fun i => zs.getD i 0) := by
  rcases h with ⟨rfl, rfl, _⟩ | ⟨x, rfl, hl, _, hz, hc, hw⟩
  · exact ⟨0, 0, fun h => absurd h (by omega), fun i hi => absurd hi (by omega)⟩
  · by_cases h0 : len = 0
    · subst h0
      exact ⟨0, 0, fun h => absurd h (by omega), fun i hi => absurd hi (by omega)⟩
    · obtain ⟨b, off, rfl, hc'⟩ := ints_at hc (by omega)
      refine ⟨b, off, fun _ => rfl, fun i hi => ⟨hc' i (by omega), ?_⟩⟩
      have hm : zs.getD i 0 ∈ zs := by
        rw [List.getD_eq_getElem?_getD, List.getElem?_eq_getElem (by omega)]
        exact List.getElem_mem _
      have hwf := hw _ hm
      show 0 ≤ zs.getD i 0 ∧ zs.getD i 0 ≤ 255
      generalize zs.getD i 0 = u at hwf ⊢
      simp [Lit.wf, IntKind.min, IntKind.max, IntKind.signed, IntKind.bits] at hwf
      omega

theorem law_any (len cap b off : Nat) (zs : Nat → Int) (ad : Option Addr) (sel : Nat) (w : World) (hlen : len ≤ 300) (had : 0 < len → ad = some ⟨b, off, none⟩) (hC : Come w b off len zs) (hsel : sel < 18446744073709551616) :
    Calls Yba.prog 3 #[.slice ad len cap, .int .u64 sel] w fun e w' => e = .returned (.bool true) ∧ Below w.heap.size w w' := by
  obtain ⟨K, hK⟩ : ∃ K, (len < 2 → K = 2) ∧ (2 ≤ len → K = len) := by
    by_cases h : len < 2
    · exact ⟨2, fun _ => rfl, fun _ => by omega⟩
    · exact ⟨len, fun _ => by omega, fun _ => rfl⟩
  have hi : sel % K < K := Nat.mod_lt _ (by omega)
  by_cases hA : sel % K + 1 = K
  · obtain ⟨p, hp⟩ : ∃ p, sel % K = p + 1 := ⟨sel % K - 1, by omega⟩
    by_cases hm : szOf len zs p + szOf len zs (p + 1) ≤ 43
    · exact law_loB len cap b off K p zs ad sel w hlen had hC hsel hK (by omega) ⟨hp, by omega⟩ hm
    · exact law_hiB len cap b off K p zs ad sel w hlen had hC hsel hK (by omega) ⟨hp, by omega⟩ hm
  · by_cases hm : szOf len zs (sel % K) + szOf len zs (sel % K + 1) ≤ 43
    · exact law_loA len cap b off K (sel % K) zs ad sel w hlen had hC hsel hK (by omega) rfl hm
    · exact law_hiA len cap b off K (sel % K) zs ad sel w hlen had hC hsel hK (by omega) rfl hm

set_option maxRecDepth 100000 in
theorem walk (a0 : Option Addr) (len0 cap0 : Nat) (z0 : List Int) (a1 : Int) (w : World) (w0 : IsRow .u8 w a0 len0 cap0 z0) (w1 : (Lit.int .u64 a1).wf = true) :
    Calls Yba.prog 3 #[.slice a0 len0 cap0, .int .u64 a1] w fun e w' => e = .returned (.bool true) ∧ Below w.heap.size w w' := by
  by_cases hbig : 300 < len0
  · have g0 : ¬ ((len0 : Int) ≤ 300) := by omega
    go_enter Yba.func3, Yba.ntmps3
    go_wp2
    go_ret
    exact ⟨rfl, Below.refl _ _⟩
  · obtain ⟨b, off, had, hC⟩ := w0.come
    simp [Lit.wf, IntKind.min, IntKind.max, IntKind.signed, IntKind.bits] at w1
    obtain ⟨sel, rfl⟩ : ∃ s : Nat, a1 = s := ⟨a1.toNat, by omega⟩
    exact law_any len0 cap0 b off _ a0 sel w (by omega) had hC (by omega)

/-! ### THE ROW's STEP: WRITTEN OUT: LEAVE IT -/
set_option maxRecDepth 100000 in
theorem lifted (os : Os) (started : os.Started) (H : Type) (enc : TypeId × Value → H) :
    ReturnsInHanded {} Yba.checked os 3 .any (Rows.lawS5260BRejoinSpec.pre6 enc Yba.prog Yba.f3 Rows.lawS5260BRejoinRow.domain false) (Rows.lawS5260BRejoinSpec.post enc Yba.prog Yba.f3 false true false false) := by
  refine returnsInHanded_of_change (C := Yba.checked) own started (by kernel_rfl) Yba.func3
    (ChangeSpec.witness6 (enc := enc) (C := Yba.checked) false ⟨#[], #[.slice none 0 0, .int .u64 0], []⟩ 8 (by kernel_rfl) (by kernel_rfl) (by kernel_rfl) (by kernel_rfl)) ?_
  intro W base args ds gs before hval0 hW hcnd _
  have hval : ∀ (j : Nat) t v, Yba.f3.params[j]? = some t → args[j]? = some v → Value.okWide Yba.prog W .any base t v := hval0
  have hW' := hW
  obtain ⟨p, q, hA0, hV, rfl, hfz, hnd⟩ := hW
  have hA : DataW.TrodAll enc Yba.prog W 0 (fun _ => true) true Yba.f3.params.toList args.toList ds p := hA0
  rw [Yba.params3] at hA hval
  obtain ⟨v0, vs0, d0, ds0, p0, q0, hargs, rfl, rfl, h0, r0⟩ := trodAll_cons hA
  obtain ⟨v1, vs1, d1, ds1, p1, q1, rfl, rfl, rfl, h1, r1⟩ := trodAll_cons r0
  obtain ⟨rfl, rfl, rfl⟩ := trodAll_nil r1
  obtain rfl : args = #[v0, v1] := by cases args; simp_all
  obtain ⟨rfl, rfl⟩ := trodVars_none hV
  obtain ⟨a0, len0, cap0, rfl⟩ := okWide_slice Yba.underlying22 (hval 0 22 v0 rfl rfl)
  have k0 := h0
  have lt0 : ∀ x ∈ p0, x.block < W.heap.size := by obtain ⟨m, hm⟩ := k0; exact DataW.trod_lt m _ _ _ hm
  obtain ⟨z0, w0⟩ : ∃ zs, IsRow .u8 W a0 len0 cap0 zs := by
    obtain ⟨fuel, hf⟩ := h0
    rcases open_ints Yba.underlying22 Yba.underlying5 (by kernel_rfl) hf with ⟨hcs, _⟩ | ⟨x, l, c, zs, hcs, _, hl, hm, hz, _, hcell, hwz⟩
    · simp [Value.cells] at hcs
      obtain ⟨rfl, rfl, rfl⟩ := hcs
      exact ⟨[], .inl ⟨rfl, rfl, rfl, rfl⟩⟩
    · simp [Value.cells] at hcs
      obtain ⟨rfl, rfl, rfl⟩ := hcs
      exact ⟨zs, .inr ⟨_, rfl, hl, hm, by simpa using hz, hcell, hwz⟩⟩
  obtain ⟨a1, rfl, rfl, rfl, w1⟩ := open_int Yba.underlying23 (hval 1 23 v1 rfl rfl) h1
  clear hA0 hval0
  refine (walk a0 len0 cap0 z0 a1 W w0 w1).mono fun e W' ⟨he, bel⟩ => ?_
  subst he
  exact ⟨_, rfl, _, _, _, [], _, [], hW', trodAll_mk1 (shut_bool Yba.underlying4 _), (trodAll_cons_mk (Below.trod laidOut (by kernel_rfl) (of_decide_eq_true (by kernel_rfl)) k0 bel lt0) (trodAll_cons_mk (shut_int Yba.underlying23 w1) trodAll_mk0)), rfl, bel.frame _, fun h => by cases h⟩

theorem over : Rows.lawS5260BRejoinRow.holds Yba.pinned (OpenSpec.ofChange Rows.lawS5260BRejoinSpec) :=
  OpenClaim.holds_of_wide 3 Yba.f3 rfl rfl rfl rfl rfl rfl rfl ⟨rfl, rfl, rfl, rfl, rfl⟩ rfl rfl rfl rfl rfl (by kernel_rfl) Yba.func3 (by kernel_rfl)
    (of_decide_eq_true (by kernel_rfl)) (by unfold Func.isWrapper; first | (rw [if_pos (by decide +kernel)]; kernel_rfl) | (rw [if_neg (by decide +kernel)]; exact ⟨rfl, rfl⟩))
    (fun os started H enc _ => lifted os started H enc)

/-- ████ THE STATEMENT ████ -/
theorem proved : Rows.LawS5260BRejoinSaid := over
end Go.Proofs.Ybulkddxi.lawS5260BRejoin
