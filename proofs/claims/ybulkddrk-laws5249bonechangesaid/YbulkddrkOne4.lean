import Derived.Test.YbulkddrkOne3
namespace Go.Proofs.Ybulkddrk
open Go.RowKit Go.MuLone

theorem setCell_twice {w : World} {b i : Nat} {c : Array Value} {T : TypeId} {u v : Value} (h : At w b c T) (hv : c[i]? = some v) : (w.setCell ⟨b, i, none⟩ u).setCell ⟨b, i, none⟩ v = w := by
  have hc : (c.setIfInBounds i u).setIfInBounds i v = c := by
    apply Array.ext_getElem?
    intro j
    rw [Array.getElem?_setIfInBounds]
    split
    · subst_vars; split
      · exact hv.symm
      · rename_i hlt; rw [Array.getElem?_eq_none (by simpa using hlt)]
    · rename_i hne; rw [Array.getElem?_setIfInBounds_ne hne]
  have hh : ((w.setCell ⟨b, i, none⟩ u).setCell ⟨b, i, none⟩ v).heap = w.heap := by
    apply Array.ext_getElem?
    intro j
    by_cases hj : j = b
    · subst hj
      have := (h.set i u).set i v
      rw [hc] at this
      unfold At at this h
      rw [this, h]
    · exact (Below.heap_setCell _ _ _ _ hj).trans (Below.heap_setCell _ _ _ _ hj)
  exact congrArg (fun hp => { w with heap := hp }) hh

theorem unlock2 (E : Nat) (cur : Option Addr) (com : Value) (w : World) (hE : At w E (eng cur 0 com) 41) :
    Calls Yba.prog 14 #[.pointer (some ⟨E, 1, none⟩)] (w.setCell ⟨E, 1, none⟩ (.int .i32 1)) fun e w' => e = .returned (.tuple #[]) ∧ w' = w :=
  (unlock_held Yba.muLib ⟨E, 1, none⟩ _ ((hE.set 1 (.int .i32 1)).cell 1) ((hE.set 1 (.int .i32 1)).frozen 1)).mono fun _ _ ⟨h1, h2⟩ => ⟨h1, by rw [h2]; exact setCell_twice hE rfl⟩

theorem Cur.load {w : World} {cur yo : Option Addr} {hs : Bool} {E : Nat} {com : Value} (h : Cur w cur yo hs) (hE : At w E (eng cur 0 com) 41) :
    Calls Yba.prog 15 #[.pointer (some ⟨E, 0, none⟩)] w fun e w' => e = .returned (.pointer cur) ∧ w' = w := by
  rcases h with ⟨rfl, _, _⟩ | ⟨p, rfl, hp, _⟩
  · exact load_nil E w (hE.cell 0)
  · exact load_some E p _ w (hE.cell 0) hp rfl

theorem Cur.but {S : List Nat} {w w' : World} {cur yo : Option Addr} {hs : Bool} (h : Cur w cur yo hs) (hb : But S w w') (hn : ∀ p, cur = some ⟨p, 0, none⟩ → ¬ p ∈ S) : Cur w' cur yo hs := by
  rcases h with h | ⟨p, rfl, hp, h⟩
  · exact .inl h
  · exact .inr ⟨p, rfl, hp.but hb (hn p rfl), h⟩
theorem Cur.alloc {w : World} {cur yo : Option Addr} {hs : Bool} (h : Cur w cur yo hs) (o : Obj) : Cur (w.alloc o) cur yo hs := by
  rcases h with h | ⟨p, rfl, hp, h⟩
  · exact .inl h
  · exact .inr ⟨p, rfl, hp.alloc _, h⟩

/-- What stands when the law comes to its two errors. -/
structure Pre (w W : World) (cur yo : Option Addr) (hs nf cf rm : Bool) (nm : ByteArray) : Prop where
  hHS : At W w.heap.size #[.bool hs] 4
  hNF : At W (w.heap.size + 1) #[.bool nf] 4
  hCF : At W (w.heap.size + 1 + 1) #[.bool cf] 4
  hRM : At W (w.heap.size + 1 + 1 + 1) #[.bool rm] 4
  hNM : At W (w.heap.size + 1 + 1 + 1 + 1) #[.string nm] 9
  hE : At W (w.heap.size + 1 + 1 + 1 + 1 + 1) (eng cur 0 .nilFunc) 41
  hST : At W (w.heap.size + 1 + 1 + 1 + 1 + 1 + 1 + 1) #[.pointer cur] 23
  hcur : Cur W cur yo hs
  below : Below w.heap.size w W

/-- The eight blocks that the law's head lays. -/
abbrev W0 (w : World) (hs nf cf rm : Bool) (nm : ByteArray) (st : Option Addr) : World :=
  (((((((w.alloc (.cells #[.bool hs] 4)).alloc (.cells #[.bool nf] 4)).alloc (.cells #[.bool cf] 4)).alloc (.cells #[.bool rm] 4)).alloc (.cells #[.string nm] 9)).alloc (.cells (eng none 0 .nilFunc) 41)).alloc
    (.cells #[.slice none 0 0, .map none, .map none, .slice none 0 0, .map none, .map none, .slice none 0 0, .map none, .map none] 53)).alloc (.cells #[.pointer st] 23)

theorem pre_false (w : World) (nf cf rm : Bool) (nm : ByteArray) : Pre w (W0 w false nf cf rm nm none) none none false nf cf rm nm := by
  refine ⟨?_, ?_, ?_, ?_, ?_, ?_, ?_, .inl ⟨rfl, rfl, rfl⟩, ?_⟩
  · exact (((((((At.new' _ _ _ (by simp)).alloc _).alloc _).alloc _).alloc _).alloc _).alloc _).alloc _
  · exact ((((((At.new' _ _ _ (by simp)).alloc _).alloc _).alloc _).alloc _).alloc _).alloc _
  · exact (((((At.new' _ _ _ (by simp)).alloc _).alloc _).alloc _).alloc _).alloc _
  · exact ((((At.new' _ _ _ (by simp)).alloc _).alloc _).alloc _).alloc _
  · exact (((At.new' _ _ _ (by simp)).alloc _).alloc _).alloc _
  · exact ((At.new' _ _ _ (by simp)).alloc _).alloc _
  · exact At.new' _ _ _ (by simp)
  · exact ((((((((Below.refl _ _).alloc (by simp) _).alloc (by simp) _).alloc (by simp; omega) _).alloc (by simp; omega) _).alloc (by simp; omega) _).alloc (by simp; omega) _).alloc (by simp; omega) _).alloc (by simp; omega) _

abbrev ST8 (w : World) : Nat := w.heap.size + 1 + 1 + 1 + 1 + 1 + 1 + 1 + 1
abbrev W1 (w : World) (nf cf rm : Bool) (nm : ByteArray) : World :=
  (W0 w true nf cf rm nm (some ⟨ST8 w, 0, none⟩)).alloc (.cells (set79 .nilFunc (.pointer (some ⟨w.heap.size + 1 + 1 + 1 + 1 + 1 + 1, 0, none⟩))) 79)

/-- The same with the start's set laid, not yet stored. -/
structure Pre1 (w W : World) (nf cf rm : Bool) (nm : ByteArray) : Prop where
  hHS : At W w.heap.size #[.bool true] 4
  hNF : At W (w.heap.size + 1) #[.bool nf] 4
  hCF : At W (w.heap.size + 1 + 1) #[.bool cf] 4
  hRM : At W (w.heap.size + 1 + 1 + 1) #[.bool rm] 4
  hNM : At W (w.heap.size + 1 + 1 + 1 + 1) #[.string nm] 9
  hE : At W (w.heap.size + 1 + 1 + 1 + 1 + 1) (eng none 0 .nilFunc) 41
  hST : At W (w.heap.size + 1 + 1 + 1 + 1 + 1 + 1 + 1) #[.pointer (some ⟨ST8 w, 0, none⟩)] 23
  hSE : At W (ST8 w) (set79 .nilFunc (.pointer (some ⟨w.heap.size + 1 + 1 + 1 + 1 + 1 + 1, 0, none⟩))) 79
  below : Below w.heap.size w W

theorem pre1 (w : World) (nf cf rm : Bool) (nm : ByteArray) : Pre1 w (W1 w nf cf rm nm) nf cf rm nm := by
  refine ⟨?_, ?_, ?_, ?_, ?_, ?_, ?_, ?_, ?_⟩
  · exact ((((((((At.new' _ _ _ (by simp)).alloc _).alloc _).alloc _).alloc _).alloc _).alloc _).alloc _).alloc _
  · exact (((((((At.new' _ _ _ (by simp)).alloc _).alloc _).alloc _).alloc _).alloc _).alloc _).alloc _
  · exact ((((((At.new' _ _ _ (by simp)).alloc _).alloc _).alloc _).alloc _).alloc _).alloc _
  · exact (((((At.new' _ _ _ (by simp)).alloc _).alloc _).alloc _).alloc _).alloc _
  · exact ((((At.new' _ _ _ (by simp)).alloc _).alloc _).alloc _).alloc _
  · exact (((At.new' _ _ _ (by simp)).alloc _).alloc _).alloc _
  · exact (At.new' _ _ _ (by simp)).alloc _
  · exact At.new' _ _ _ (by simp)
  · exact (((((((((Below.refl _ _).alloc (by simp) _).alloc (by simp) _).alloc (by simp; omega) _).alloc (by simp; omega) _).alloc (by simp; omega) _).alloc (by simp; omega) _).alloc (by simp; omega) _).alloc (by simp; omega) _).alloc (by simp; omega) _

theorem Pre1.stored {w W : World} {nf cf rm : Bool} {nm : ByteArray} (h : Pre1 w W nf cf rm nm) :
    Pre w (W.setCell ⟨w.heap.size + 1 + 1 + 1 + 1 + 1, 0, none⟩ (.pointer (some ⟨ST8 w, 0, none⟩))).drew (some ⟨ST8 w, 0, none⟩) (some ⟨w.heap.size + 1 + 1 + 1 + 1 + 1 + 1, 0, none⟩) true nf cf rm nm :=
  ⟨(h.hHS.other (h.hHS.ne h.hE (by decide)) _).drew, (h.hNF.other (h.hNF.ne h.hE (by decide)) _).drew, (h.hCF.other (h.hCF.ne h.hE (by decide)) _).drew, (h.hRM.other (h.hRM.ne h.hE (by decide)) _).drew, (h.hNM.other (h.hNM.ne h.hE (by decide)) _).drew,
    (h.hE.set 0 _).drew, (h.hST.other (h.hST.ne h.hE (by decide)) _).drew, .inr ⟨_, rfl, (h.hSE.other (h.hSE.ne h.hE (by decide)) _).drew, rfl⟩, (h.below.setCell (by simp; omega) _).drew⟩

abbrev X0 (V V0 : World) : World :=
  (((((((((V.alloc (.cells #[.string ⟨#[110, 101, 120, 116]⟩] 120)).alloc (.cells #[.iface 118 (.pointer (some ⟨V0.heap.size, 0, none⟩))] 82)).alloc (.cells #[.string ⟨#[99, 111, 109, 109, 105, 116]⟩] 120)).alloc
    (.cells #[.iface 118 (.pointer (some ⟨V0.heap.size + 1 + 1, 0, none⟩))] 82)).alloc (.cells nil79 79)).alloc (.cells #[.pointer (some ⟨V0.heap.size + 1 + 1 + 1 + 1, 0, none⟩)] 23)).alloc (.cells #[.int .i64 0] 3)).alloc (.cells #[.bool true] 4)).alloc
    (.cells #[.int .i64 0] 3)).alloc (.cells #[.pointer none, .string ⟨#[]⟩, .bool false] 85)

theorem At.x0 {V V0 : World} {b : Nat} {c : Array Value} {T : TypeId} (h : At V b c T) : At (X0 V V0) b c T :=
  (((((((((h.alloc _).alloc _).alloc _).alloc _).alloc _).alloc _).alloc _).alloc _).alloc _).alloc _
theorem Cur.x0 {V V0 : World} {cur yo : Option Addr} {hs : Bool} (h : Cur V cur yo hs) : Cur (X0 V V0) cur yo hs := by
  rcases h with h | ⟨p, rfl, hp, h⟩
  · exact .inl h
  · exact .inr ⟨p, rfl, hp.x0, h⟩

/-- What stands when 'change' is called. -/
structure Mid (w V X : World) (cur yo : Option Addr) (hs nf cf rm : Bool) (nm : ByteArray) (com : Value) : Prop where
  hHS : At X w.heap.size #[.bool hs] 4
  hNF : At X (w.heap.size + 1) #[.bool nf] 4
  hCF : At X (w.heap.size + 1 + 1) #[.bool cf] 4
  hRM : At X (w.heap.size + 1 + 1 + 1) #[.bool rm] 4
  hNM : At X (w.heap.size + 1 + 1 + 1 + 1) #[.string nm] 9
  hE : At X (w.heap.size + 1 + 1 + 1 + 1 + 1) (eng cur 0 com) 41
  hST : At X (w.heap.size + 1 + 1 + 1 + 1 + 1 + 1 + 1) #[.pointer cur] 23
  hcur : Cur X cur yo hs
  below : Below w.heap.size w X
  hNE : At X (V.heap.size + 1) #[.iface 118 (.pointer (some ⟨V.heap.size, 0, none⟩))] 82
  hCE : At X (V.heap.size + 1 + 1 + 1) #[.iface 118 (.pointer (some ⟨V.heap.size + 1 + 1, 0, none⟩))] 82
  hPS : At X (V.heap.size + 1 + 1 + 1 + 1) nil79 79
  hM : At X (V.heap.size + 1 + 1 + 1 + 1 + 1) #[.pointer (some ⟨V.heap.size + 1 + 1 + 1 + 1, 0, none⟩)] 23
  hNC : At X (V.heap.size + 1 + 1 + 1 + 1 + 1 + 1) #[.int .i64 0] 3
  hSR : At X (V.heap.size + 1 + 1 + 1 + 1 + 1 + 1 + 1) #[.bool true] 4
  hCM : At X (V.heap.size + 1 + 1 + 1 + 1 + 1 + 1 + 1 + 1) #[.int .i64 0] 3
  hGOT : At X (V.heap.size + 1 + 1 + 1 + 1 + 1 + 1 + 1 + 1 + 1) #[.pointer none, .string ⟨#[]⟩, .bool false] 85
  lt : w.heap.size + 1 + 1 + 1 + 1 + 1 + 1 + 1 < V.heap.size
  fresh : ∀ p, cur = some ⟨p, 0, none⟩ → p < V.heap.size

theorem Pre.mid {w V : World} {cur yo : Option Addr} {hs nf cf rm : Bool} {nm : ByteArray} (h : Pre w V cur yo hs nf cf rm nm) : Mid w V (X0 V V) cur yo hs nf cf rm nm .nilFunc := by
  have lt := h.hST.lt
  have hfr : ∀ p, cur = some ⟨p, 0, none⟩ → p < V.heap.size := by
    rintro p rfl
    rcases h.hcur with ⟨hx, _⟩ | ⟨q, hq, hp, _⟩
    · cases hx
    · obtain rfl : p = q := by simpa using hq
      exact hp.lt
  refine ⟨h.hHS.x0, h.hNF.x0, h.hCF.x0, h.hRM.x0, h.hNM.x0, h.hE.x0, h.hST.x0, h.hcur.x0, ?_, ?_, ?_, ?_, ?_, ?_, ?_, ?_, ?_, lt, hfr⟩
  · exact ((((((((((h.below.alloc (by omega) _).alloc (by simp; omega) _).alloc (by simp; omega) _).alloc (by simp; omega) _).alloc (by simp; omega) _).alloc (by simp; omega) _).alloc (by simp; omega) _).alloc (by simp; omega) _).alloc (by simp; omega) _).alloc (by simp; omega) _)
  · exact ((((((((At.new' _ _ _ (by simp)).alloc _).alloc _).alloc _).alloc _).alloc _).alloc _).alloc _).alloc _
  · exact ((((((At.new' _ _ _ (by simp)).alloc _).alloc _).alloc _).alloc _).alloc _).alloc _
  · exact (((((At.new' _ _ _ (by simp)).alloc _).alloc _).alloc _).alloc _).alloc _
  · exact ((((At.new' _ _ _ (by simp)).alloc _).alloc _).alloc _).alloc _
  · exact (((At.new' _ _ _ (by simp)).alloc _).alloc _).alloc _
  · exact ((At.new' _ _ _ (by simp)).alloc _).alloc _
  · exact (At.new' _ _ _ (by simp)).alloc _
  · exact At.new' _ _ _ (by simp)

theorem Mid.com {w V X : World} {cur yo : Option Addr} {hs nf cf rm : Bool} {nm : ByteArray} (h : Mid w V X cur yo hs nf cf rm nm .nilFunc) (com : Value) : Mid w V (X.setCell ⟨w.heap.size + 1 + 1 + 1 + 1 + 1, 4, none⟩ com) cur yo hs nf cf rm nm com := by
  have hot : ∀ {b : Nat} {c : Array Value} {T : TypeId}, At X b c T → T ≠ 41 → At (X.setCell ⟨w.heap.size + 1 + 1 + 1 + 1 + 1, 4, none⟩ com) b c T := fun hb ht => hb.other (hb.ne h.hE ht) _
  exact ⟨hot h.hHS (by decide), hot h.hNF (by decide), hot h.hCF (by decide), hot h.hRM (by decide), hot h.hNM (by decide), h.hE.set 4 _, hot h.hST (by decide), h.hcur.other h.hE (by decide) _, h.below.setCell (by simp; omega) _,
    hot h.hNE (by decide), hot h.hCE (by decide), hot h.hPS (by decide), hot h.hM (by decide), hot h.hNC (by decide), hot h.hSR (by decide), hot h.hCM (by decide), hot h.hGOT (by decide), h.lt, h.fresh⟩

theorem Cur.ne {X : World} {cur yo : Option Addr} {hs : Bool} {b : Nat} {c : Array Value} {T : TypeId} (h : Cur X cur yo hs) (hb : At X b c T) (ht : T ≠ 79) : ∀ p, cur = some ⟨p, 0, none⟩ → p ≠ b := by
  rintro p rfl
  rcases h with ⟨hx, _⟩ | ⟨q, hq, hp, _⟩
  · cases hx
  · obtain rfl : p = q := by simpa using hq
    exact hp.ne hb (Ne.symm ht)

theorem eql23o (c : Option Addr) (w : World) : (binOp .eql 23 (.pointer c) (.pointer c)).run Yba.prog w = .ok (.bool true) w := by
  cases c with
  | none =>
    have h : ∀ d : Nat, (Op.equalIn (d + 1) 23 (.pointer none) (.pointer none)).run Yba.prog w = .ok true w := fun d => by simp [Op.equalIn, run_underlying Yba.underlying23]
    simp only [binOp]
    simp [Op.equal, Op.maxDepth, h 9999]
  | some a => exact eql23 a w
theorem neq42o (c : Option Addr) (w : World) : (binOp .neq 42 (.pointer c) (.pointer c)).run Yba.prog w = .ok (.bool false) w := by
  cases c with
  | none =>
    have h : ∀ d : Nat, (Op.equalIn (d + 1) 42 (.pointer none) (.pointer none)).run Yba.prog w = .ok true w := fun d => by simp [Op.equalIn, run_underlying Yba.underlying42]
    simp only [binOp]
    simp [Op.equal, Op.maxDepth, h 9999]
  | some a => exact neq42 a w
theorem neq55 (w : World) : (binOp .neq 55 .nilFunc .nilFunc).run Yba.prog w = .ok (.bool false) w := neq_nil_nil w Yba.underlying55
end Go.Proofs.Ybulkddrk
