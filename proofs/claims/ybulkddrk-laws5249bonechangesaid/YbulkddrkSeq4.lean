import Derived.Test.YbulkddrkSeq3
namespace Go.Proofs.Ybulkddrk
open Go.RowKit Go.MuLone

theorem At.ne {w : World} {b b' : Nat} {c c' : Array Value} {T T' : TypeId} (h : At w b c T) (h' : At w b' c' T') (ht : T ≠ T') : b ≠ b' := by
  rintro rfl; unfold At at h h'; rw [h] at h'; injection h' with h'; injection h' with _ h'; exact ht h'

/-- What holds of the sequence's world at each round's head: E: the engine; C: the committer's count; F: whether it is to fail. -/
structure Seq (w wr : World) (cur : Option Addr) (n : Nat) : Prop where
  hE : At wr w.heap.size (eng cur 0 (.func (.func 16) #[] #[.pointer (some ⟨w.heap.size + 1, 0, none⟩), .pointer (some ⟨w.heap.size + 1 + 1, 0, none⟩)])) 41
  hC : At wr (w.heap.size + 1) #[.int .i64 n] 3
  hF : ∃ f, At wr (w.heap.size + 1 + 1) #[.bool f] 4
  hcur : ∀ a, cur = some a → ∃ p, a = ⟨p, 0, none⟩ ∧ At wr p nil79 79
  below : Below w.heap.size w wr

/-- The world at the call of 'change': five new blocks; the committer is told whether to fail. -/
abbrev roundWorld (wr : World) (F : Nat) (nf fc : Bool) (cur : Option Addr) : World :=
  (((((wr.setCell ⟨F, 0, none⟩ (.bool fc)).alloc (.cells #[.bool nf] 4)).alloc (.cells nil79 79)).alloc (.cells #[.pointer (some ⟨wr.heap.size + 1, 0, none⟩)] 23)).alloc (.cells #[.bool true] 4)).alloc (.cells #[.pointer cur] 23)

structure Ready (w wr V : World) (nf fc : Bool) (cur : Option Addr) (n : Nat) : Prop where
  hE : At V w.heap.size (eng cur 0 (.func (.func 16) #[] #[.pointer (some ⟨w.heap.size + 1, 0, none⟩), .pointer (some ⟨w.heap.size + 1 + 1, 0, none⟩)])) 41
  hC : At V (w.heap.size + 1) #[.int .i64 n] 3
  hF : At V (w.heap.size + 1 + 1) #[.bool fc] 4
  hNF : At V wr.heap.size #[.bool nf] 4
  hPS : At V (wr.heap.size + 1) nil79 79
  hM : At V (wr.heap.size + 1 + 1) #[.pointer (some ⟨wr.heap.size + 1, 0, none⟩)] 23
  hOK : At V (wr.heap.size + 1 + 1 + 1) #[.bool true] 4
  hX : At V (wr.heap.size + 1 + 1 + 1 + 1) #[.pointer cur] 23
  hcur : ∀ a, cur = some a → ∃ p, a = ⟨p, 0, none⟩ ∧ At V p nil79 79
  below : Below w.heap.size w V
  size : w.heap.size + 1 + 1 < wr.heap.size

theorem At.new' (w : World) (c : Array Value) (T : TypeId) {b : Nat} (hb : w.heap.size = b) : At (w.alloc (.cells c T)) b c T := hb ▸ At.new w c T

theorem ready {w wr : World} {cur : Option Addr} {n : Nat} (nf fc : Bool) (hS : Seq w wr cur n) : Ready w wr (roundWorld wr (w.heap.size + 1 + 1) nf fc cur) nf fc cur n := by
  obtain ⟨f, hF⟩ := hS.hF
  have lF := hF.lt
  refine ⟨?_, ?_, ?_, ?_, ?_, ?_, ?_, ?_, ?_, ?_, lF⟩
  · exact (((((hS.hE.other (by simp; omega) _).alloc _).alloc _).alloc _).alloc _).alloc _
  · exact (((((hS.hC.other (by simp) _).alloc _).alloc _).alloc _).alloc _).alloc _
  · exact (((((hF.set 0 _).alloc _).alloc _).alloc _).alloc _).alloc _
  · exact ((((At.new' _ _ _ (by simp)).alloc _).alloc _).alloc _).alloc _
  · exact (((At.new' _ _ _ (by simp)).alloc _).alloc _).alloc _
  · exact ((At.new' _ _ _ (by simp)).alloc _).alloc _
  · exact (At.new' _ _ _ (by simp)).alloc _
  · exact At.new' _ _ _ (by simp)
  · rintro a ha
    obtain ⟨p, rfl, hp⟩ := hS.hcur a ha
    exact ⟨p, rfl, (((((hp.other (hp.ne hF (by decide)) _).alloc _).alloc _).alloc _).alloc _).alloc _⟩
  · exact (((((hS.below.setCell (by simp; omega) _).alloc (by simp; omega) _).alloc (by simp; omega) _).alloc (by simp; omega) _).alloc (by simp; omega) _).alloc (by simp; omega) _

theorem neq23o (c : Option Addr) (w : World) : (binOp .neq 23 (.pointer c) (.pointer c)).run Yba.prog w = .ok (.bool false) w := by
  cases c with
  | none =>
    have h : ∀ d : Nat, (Op.equalIn (d + 1) 23 (.pointer none) (.pointer none)).run Yba.prog w = .ok true w := fun d => by simp [Op.equalIn, run_underlying Yba.underlying23]
    simp only [binOp]
    simp [Op.equal, Op.maxDepth, h 9999]
  | some a => exact neq23 a w

theorem load_any (E : Nat) (cur : Option Addr) (com : Value) (w : World) (hE : At w E (eng cur 0 com) 41) (hcur : ∀ a, cur = some a → ∃ p, a = ⟨p, 0, none⟩ ∧ At w p nil79 79) :
    Calls Yba.prog 15 #[.pointer (some ⟨E, 0, none⟩)] w fun e w' => e = .returned (.pointer cur) ∧ w' = w := by
  cases cur with
  | none => exact load_nil E w (hE.cell 0)
  | some a => obtain ⟨p, rfl, hp⟩ := hcur a rfl; exact load_some E p _ w (hE.cell 0) hp rfl

set_option maxRecDepth 100000 in
set_option maxHeartbeats 1600000 in
theorem walk1 (a0 : Option Addr) (len0 cap0 : Nat) (w : World) (hrow : ∀ k, k < len0 → ∃ b off z, a0 = some ⟨b, off, none⟩ ∧ b < w.heap.size ∧ w.cell? ⟨b, off + k, none⟩ = some (.int .u8 z)) (hbig : len0 ≤ 1024) :
    Calls Yba.prog 4 #[.slice a0 len0 cap0] w fun e w' => e = .returned (.bool true) ∧ Below w.heap.size w w' := by
  have hmf : ∀ (fn : Fn) (first cap : Array Value) (w : World), (Instr.makeFunc fn first cap).run Yba.prog w = .ok (.func fn first cap) w := fun _ _ _ _ => rfl
  go_enter Yba.func4, Yba.ntmps4
  go_wp2
  go_loopw [6, 7, 8] (fun c m i wr => ∃ (k n : Nat) (cur : Option Addr), k ≤ len0 ∧ n ≤ k ∧ i = .int .i64 k ∧ m = .int .i64 n ∧ c = .pointer cur ∧ Seq w wr cur n) (fun _ _ i _ => len0 - (intOf i).toNat)
  case atStart =>
    exact ⟨0, 0, none, Nat.zero_le _, Nat.le_refl _, rfl, rfl, rfl, ((At.new _ _ _).alloc _).alloc _, (At.new' _ _ _ (by simp)).alloc _, ⟨false, At.new' _ _ _ (by simp)⟩, by simp, (((Below.refl _ _).alloc (by simp) _).alloc (by simp) _).alloc (by simp; omega) _⟩
  case round =>
    obtain ⟨k, n, cur, hk, hn, rfl, rfl, rfl, hS⟩ := hrel
    by_cases hlt : k < len0
    · obtain ⟨b, off, z, rfl, hb, hz⟩ := hrow k hlt
      have hz' := (hS.below.cell (p := ⟨b, off + k, none⟩) hb).trans hz
      obtain ⟨f, hF⟩ := hS.hF
      have cF := hF.cell 0
      have zF := hF.frozen 0
      have lF := hF.lt
      have hq := neq23o
      go_wp2_with fail
      generalize (bits BinOp.and IntKind.u8 z 1 != 0) = nf at *
      generalize (bits BinOp.and IntKind.u8 z 2 != 0) = fc at *
      have R := ready nf fc hS
      change Calls _ _ _ (roundWorld wr (w.heap.size + 1 + 1) nf fc cur) _
      generalize roundWorld wr (w.heap.size + 1 + 1) nf fc cur = V at *
      have hsz := R.size
      clear hz hz' cF zF lF hF hrow
      cases nf with
      | true =>
        refine (change_next_fails w.heap.size _ _ _ _ cur _ V R.hE R.hcur R.hX R.hNF (by omega) (by omega) ?_).mono ?_
        · rintro p rfl; obtain ⟨p', hp, hq⟩ := R.hcur _ rfl; obtain rfl : p = p' := by simpa using hp
          exact hq.ne R.hE (by decide)
        rintro e w1 ⟨⟨a, rfl⟩, bt, hE⟩
        have hcur : ∀ a, cur = some a → ∃ p, a = ⟨p, 0, none⟩ ∧ At w1 p nil79 79 := by
          rintro a ha; obtain ⟨p, rfl, hp⟩ := R.hcur a ha
          exact ⟨p, rfl, hp.but bt (by simpa using hp.ne R.hE (by decide))⟩
        have hC := R.hC.but bt (by simp)
        have hF := R.hF.but bt (by simp; omega)
        have hOK := R.hOK.but bt (by simp; omega)
        have hNF := R.hNF.but bt (by simp; omega)
        have c1 := hC.cell 0
        have c2 := hF.cell 0
        have c3 := hOK.cell 0
        have c4 := hNF.cell 0
        go_wp2_with (go_at_call 15; refine (load_any w.heap.size cur _ _ hE hcur).mono ?_; rintro e w' ⟨rfl, rfl⟩)
        exact ⟨⟨k + 1, n, cur, by omega, by omega, by go_num, rfl, rfl, hE, hC, ⟨_, hF⟩, hcur, R.below.trans (bt.toBelow R.below.size (by simp))⟩, by simp [intOf]; omega⟩
      | false =>
      cases fc with
      | true =>
        refine (change_commit_fails w.heap.size (w.heap.size + 1) (w.heap.size + 1 + 1) _ _ _ _ _ cur n (by omega) (by omega) V R.hE R.hcur R.hX R.hNF R.hM R.hPS R.hC R.hF (by omega) (by omega) (by omega) (by omega) (by omega) (by omega) (by omega) ?_).mono ?_
        · rintro p rfl; obtain ⟨p', hp, hq⟩ := R.hcur _ rfl; obtain rfl : p = p' := by simpa using hp
          exact hq.ne R.hE (by decide)
        rintro e w1 ⟨⟨a, rfl⟩, bt, hE, hC⟩
        have hcur : ∀ a, cur = some a → ∃ p, a = ⟨p, 0, none⟩ ∧ At w1 p nil79 79 := by
          rintro a ha; obtain ⟨p, rfl, hp⟩ := R.hcur a ha
          exact ⟨p, rfl, hp.but bt (by simp; exact ⟨hp.ne R.hE (by decide), hp.ne R.hC (by decide)⟩)⟩
        have hF := R.hF.but bt (by simp; omega)
        have hOK := R.hOK.but bt (by simp; omega)
        have hNF := R.hNF.but bt (by simp; omega)
        have c1 := hC.cell 0
        have c2 := hF.cell 0
        have c3 := hOK.cell 0
        have c4 := hNF.cell 0
        go_wp2_with (go_at_call 15; refine (load_any w.heap.size cur _ _ hE hcur).mono ?_; rintro e w' ⟨rfl, rfl⟩)
        exact ⟨⟨k + 1, n + 1, cur, by omega, by omega, by go_num, by go_num, rfl, hE, hC, ⟨_, hF⟩, hcur, R.below.trans (bt.toBelow R.below.size (by simp))⟩, by simp [intOf]; omega⟩
      | false =>
        refine (change_ok w.heap.size (w.heap.size + 1) (w.heap.size + 1 + 1) _ _ _ _ _ cur n (by omega) (by omega) V R.hE R.hcur R.hX R.hNF R.hM R.hPS R.hC R.hF (by omega) (by omega) (by omega) (by omega) (by omega) (by omega) (by omega) (by omega) ?_).mono ?_
        · rintro p rfl; obtain ⟨p', hp, hq⟩ := R.hcur _ rfl; obtain rfl : p = p' := by simpa using hp
          exact hq.ne R.hE (by decide)
        rintro e w1 ⟨rfl, bt, hE, hC⟩
        have hcur : ∀ a : Addr, (some ⟨wr.heap.size + 1, 0, none⟩) = some a → ∃ p : Nat, a = ⟨p, 0, none⟩ ∧ At w1 p nil79 79 := by
          rintro a ha
          obtain rfl : _ = a := by simpa using ha
          exact ⟨_, rfl, R.hPS.but bt (by simp; omega)⟩
        have hF := R.hF.but bt (by simp; omega)
        have hOK := R.hOK.but bt (by simp; omega)
        have hNF := R.hNF.but bt (by simp; omega)
        have hM := R.hM.but bt (by simp; omega)
        have c1 := hC.cell 0
        have c2 := hF.cell 0
        have c3 := hOK.cell 0
        have c4 := hNF.cell 0
        have c5 := hM.cell 0
        go_wp2_with (go_at_call 15; refine (load_any w.heap.size (some ⟨wr.heap.size + 1, 0, none⟩) _ _ hE hcur).mono ?_; rintro e w' ⟨rfl, rfl⟩)
        exact ⟨⟨k + 1, n + 1, (some ⟨wr.heap.size + 1, 0, none⟩), by omega, by omega, by go_num, by go_num, rfl, hE, hC, ⟨_, hF⟩, hcur, R.below.trans (bt.toBelow R.below.size (by simp))⟩, by simp [intOf]; omega⟩
    · go_wp2
      go_ret
      exact ⟨rfl, hS.below⟩
end Go.Proofs.Ybulkddrk
