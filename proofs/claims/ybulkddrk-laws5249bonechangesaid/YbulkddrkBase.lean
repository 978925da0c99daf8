import Derived.Test.YbulkddrkRows
import Derived.Test.YbulkddrkLocks
import Derived.Conc.MuLone
import Derived.WalkKit
import Derived.Below
import Derived.LaidEqlPtr
namespace Go.Proofs.Ybulkddrk
open Go.RowKit Go.MuLone

/-- Block b of the world is an unfrozen row of cells c of type T. -/
def At (w : World) (b : Nat) (c : Array Value) (T : TypeId) : Prop := w.heap[b]? = some (.cells c T)

theorem At.cell {w : World} {b : Nat} {c : Array Value} {T : TypeId} (h : At w b c T) (i : Nat) : w.cell? ⟨b, i, none⟩ = c[i]? := by
  unfold At at h; simp [World.cell?, h]
theorem At.frozen {w : World} {b : Nat} {c : Array Value} {T : TypeId} (h : At w b c T) (i : Nat) : w.frozen? ⟨b, i, none⟩ = false := by
  unfold At at h; simp [World.frozen?, h]
theorem At.shape {w : World} {b : Nat} {c : Array Value} {T : TypeId} (h : At w b c T) : w.shape? b = some (T, c.size) := by
  unfold At at h; simp [World.shape?, h]
theorem At.lt {w : World} {b : Nat} {c : Array Value} {T : TypeId} (h : At w b c T) : b < w.heap.size := by
  unfold At at h; exact (Array.getElem?_eq_some_iff.1 h).1
theorem At.below {w w' : World} {b : Nat} {c : Array Value} {T : TypeId} (h : At w b c T) (hb : Below w.heap.size w w') : At w' b c T := by
  have hl := h.lt
  unfold At at *; rw [hb.block b hl]; exact h
theorem At.other {w : World} {b : Nat} {c : Array Value} {T : TypeId} (h : At w b c T) {a : Addr} (ha : b ≠ a.block) (v : Value) : At (w.setCell a v) b c T := by
  unfold At at *; rw [Below.heap_setCell _ _ _ _ ha]; exact h
theorem At.set {w : World} {b : Nat} {c : Array Value} {T : TypeId} (h : At w b c T) (i : Nat) (v : Value) : At (w.setCell ⟨b, i, none⟩ v) b (c.setIfInBounds i v) T := by
  unfold At at *; simp [World.setCell, Array.getElem?_modify, h]
theorem At.alloc {w : World} {b : Nat} {c : Array Value} {T : TypeId} (h : At w b c T) (o : Obj) : At (w.alloc o) b c T :=
  h.below ((Below.refl _ _).alloc (Nat.le_refl _) o)
theorem At.drew {w : World} {b : Nat} {c : Array Value} {T : TypeId} (h : At w b c T) : At w.drew b c T := h
theorem At.new (w : World) (c : Array Value) (T : TypeId) : At (w.alloc (.cells c T)) w.heap.size c T := by
  unfold At; show (w.heap.push _)[w.heap.size]? = _; simp

/-- A pointer to a policy set is converted to the plain pointer and back as it is. -/
theorem run_convert_back {p : Nat} {c : Array Value} {w : World} (h : At w p c 79) (hc : c.size = 18) :
    (convert 27 23 (.pointer (some ⟨p, 0, none⟩))).run Yba.prog w = .ok (.pointer (some ⟨p, 0, none⟩)) w := by
  have hsh := h.shape
  rw [hc] at hsh
  have hl : liesAt Yba.prog Yba.prog.depth 79 (18 / Yba.prog.cellsOf 79) 0 79 1 = true := by kernel_rfl
  have hsz : (Yba.prog.info? 79).map (fun i => decide (i.size = 0)) = some false := by kernel_rfl
  obtain ⟨i, hi, _⟩ := Option.map_eq_some_iff.1 hsz
  simp only [convert, run_underlying Yba.underlying27, run_underlying Yba.underlying23, Sem.run_bind, Result.andThen]
  conv => lhs; arg 2; whnf
  simp only [Sem.run, Sem.bind, Sem.run_bind', Yba.underlying27, Sem.run_pure, Sem.run_bind, Result.andThen_ok, run_underlying Yba.underlying23]
  simp [Conv.seenAt, viewAt, variablesAt, sizeOf, typeInfo, hsh, hi, hl]

theorem run_convert_to {a : Addr} {v : Value} {w : World} (h : w.cell? a = some v) :
    (convert 23 27 (.pointer (some a))).run Yba.prog w = .ok (.pointer (some a)) w := by
  obtain ⟨e, n, hsh, hlt, hsp⟩ := World.shape?_of_cell? h
  have hsz : (Yba.prog.info? 79).map (fun i => decide (i.size = 0)) = some false := by kernel_rfl
  obtain ⟨i, hi, hz0⟩ := Option.map_eq_some_iff.1 hsz
  have hz : i.size ≠ 0 := by simpa using hz0
  have hge : ¬ (n ≤ a.off) := by omega
  simp only [convert, run_underlying Yba.underlying27, run_underlying Yba.underlying23, Sem.run_bind, Result.andThen]
  conv => lhs; arg 2; whnf
  simp only [Sem.run, Sem.bind, Sem.run_bind', Yba.underlying23, Sem.run_pure, Sem.run_bind, Result.andThen_ok, run_underlying Yba.underlying27]
  simp [Conv.seenAt, viewAt, cellsIn, sizeOf, typeInfo, hsh, hi, hz, hge]

theorem run_convert_back_nil (w : World) : (convert 27 23 (.pointer none)).run Yba.prog w = .ok (.pointer none) w := by
  simp only [convert, run_underlying Yba.underlying27, run_underlying Yba.underlying23, Sem.run_bind, Result.andThen]
  conv => lhs; arg 2; whnf
  simp only [Sem.run, Sem.bind, Sem.run_bind', Yba.underlying27, Sem.run_pure, Sem.run_bind, Result.andThen_ok, run_underlying Yba.underlying23]

/-- A pointer is not unequal to itself. -/
theorem run_neq_same {tp te : TypeId} {j : TypeInfo} (a : Addr) (w : World) (hp : Yba.prog.underlying tp = some (.pointer te)) (hte : Yba.prog.info? te = some j) :
    (binOp .neq tp (.pointer (some a)) (.pointer (some a))).run Yba.prog w = .ok (.bool false) w := by
  have h : ∀ d : Nat, (Op.equalIn (d + 1) tp (.pointer (some a)) (.pointer (some a))).run Yba.prog w = .ok true w := fun d => by
    simp [Op.equalIn, run_underlying hp, sizeOf, typeInfo, hte, run_sameAddr_same]
  simp only [binOp]
  simp [Op.equal, Op.maxDepth, h 9999]

theorem neq23 (a : Addr) (w : World) : (binOp .neq 23 (.pointer (some a)) (.pointer (some a))).run Yba.prog w = .ok (.bool false) w := by
  have hs : (Yba.prog.info? 79).isSome = true := by kernel_rfl
  obtain ⟨j, hj⟩ := Option.isSome_iff_exists.1 hs
  exact run_neq_same a w Yba.underlying23 hj
theorem eql23 (a : Addr) (w : World) : (binOp .eql 23 (.pointer (some a)) (.pointer (some a))).run Yba.prog w = .ok (.bool true) w := by
  have hs : (Yba.prog.info? 79).isSome = true := by kernel_rfl
  obtain ⟨j, hj⟩ := Option.isSome_iff_exists.1 hs
  exact run_eql_ptr_same w a Yba.underlying23 hj
theorem neq42 (a : Addr) (w : World) : (binOp .neq 42 (.pointer (some a)) (.pointer (some a))).run Yba.prog w = .ok (.bool false) w := by
  have hs : (Yba.prog.info? 53).isSome = true := by kernel_rfl
  obtain ⟨j, hj⟩ := Option.isSome_iff_exists.1 hs
  exact run_neq_same a w Yba.underlying42 hj
theorem eql82 (a : Addr) (w : World) : (binOp .eql 82 (.iface 118 (.pointer (some a))) (.iface 118 (.pointer (some a)))).run Yba.prog w = .ok (.bool true) w := by
  have hs : (Yba.prog.info? 120).isSome = true := by kernel_rfl
  obtain ⟨j, hj⟩ := Option.isSome_iff_exists.1 hs
  have hs2 : (Yba.prog.info? 118).map (fun i => i.comparable) = some true := by kernel_rfl
  obtain ⟨i, hi, hc⟩ := Option.map_eq_some_iff.1 hs2
  exact run_eql_iface_ptr_same w a Yba.underlying82 Yba.underlying118 hi hc hj

/-- sync/atomic.LoadPointer: the pointer in the cell. -/
theorem run_loadPointer {a : Addr} {x : Option Addr} {w : World} (hc : w.cell? a = some (.pointer x)) :
    (callFunc 29 #[.pointer (some a)]).run Yba.prog w = .ok (.value (.pointer x)) w := by
  rw [run_callFunc_extern Yba.func29 (by kernel_rfl) (by kernel_rfl) (by kernel_rfl) (show Extern.find _ = some (Extern.Atomic.loadT .ptr) by kernel_rfl)]
  change (Sem.run Yba.prog (do Extern.Atomic.read .ptr (← asAddr (.pointer (some a)))) w).andThen _ = _
  simp [Extern.Atomic.read, asAddr, hc, Result.andThen]

/-- sync/atomic.StorePointer: the cell holds the new pointer. -/
theorem run_storePointer {a : Addr} {x : Option Addr} {u : Value} {w : World} (hc : w.cell? a = some u) (hz : w.frozen? a = false) :
    (callFunc 24 #[.pointer (some a), .pointer x]).run Yba.prog w = .ok (.value (.tuple #[])) (w.setCell a (.pointer x)) := by
  rw [run_callFunc_extern Yba.func24 (by kernel_rfl) (by kernel_rfl) (by kernel_rfl) (show Extern.find _ = some Extern.Atomic.storeT by kernel_rfl)]
  change (Sem.run Yba.prog (do
    store (← asAddr (.pointer (some a))) (.pointer x) .atomic
    pure Extern.Atomic.none_) w).andThen _ = _
  simp [asAddr, hc, hz, run_store Yba.prog w a (.pointer x) .atomic rfl, Result.andThen, Extern.Atomic.none_]

/-- (*atomic.Pointer[PolicySet]).Load at a nil pointer. -/
theorem load_nil (E : Nat) (w : World) (hc : w.cell? ⟨E, 0, none⟩ = some (.pointer none)) :
    Calls Yba.prog 15 #[.pointer (some ⟨E, 0, none⟩)] w fun e w' => e = .returned (.pointer none) ∧ w' = w := by
  have h1 := run_loadPointer hc
  have h2 := run_convert_back_nil w
  go_enter Yba.func15, Yba.ntmps15
  go_wp2
  go_ret
  exact ⟨rfl, rfl⟩

theorem load_some (E p : Nat) (c : Array Value) (w : World) (hc : w.cell? ⟨E, 0, none⟩ = some (.pointer (some ⟨p, 0, none⟩))) (hp : At w p c 79) (hs : c.size = 18) :
    Calls Yba.prog 15 #[.pointer (some ⟨E, 0, none⟩)] w fun e w' => e = .returned (.pointer (some ⟨p, 0, none⟩)) ∧ w' = w := by
  have h1 := run_loadPointer hc
  have h2 := run_convert_back hp hs
  go_enter Yba.func15, Yba.ntmps15
  go_wp2
  go_ret
  exact ⟨rfl, rfl⟩

/-- (*atomic.Pointer[PolicySet]).Store of a pointer to a set. -/
theorem store_some (E p : Nat) (u v : Value) (w : World) (hc : w.cell? ⟨E, 0, none⟩ = some u) (hz : w.frozen? ⟨E, 0, none⟩ = false) (hp : w.cell? ⟨p, 0, none⟩ = some v) :
    Calls Yba.prog 7 #[.pointer (some ⟨E, 0, none⟩), .pointer (some ⟨p, 0, none⟩)] w fun e w' => e = .returned (.tuple #[]) ∧ w' = w.setCell ⟨E, 0, none⟩ (.pointer (some ⟨p, 0, none⟩)) := by
  have h1 := run_storePointer (x := some ⟨p, 0, none⟩) hc hz
  have h2 := run_convert_to hp
  go_enter Yba.func7, Yba.ntmps7
  go_wp2
  go_end0
  exact ⟨rfl, rfl⟩

/-- errors.New -/
theorem errorsNew (s : ByteArray) (w : World) :
    Calls Yba.prog 8 #[.string s] w fun e w' => e = .returned (.iface 118 (.pointer (some ⟨w.heap.size, 0, none⟩))) ∧ w' = w.alloc (.cells #[.string s] 120) := by
  go_enter Yba.func8, Yba.ntmps8
  go_wp2
  go_ret
  exact ⟨rfl, rfl⟩

/-- (*PolicySet).Len of a set without policies. -/
theorem len_zero (p : Nat) (w : World) (hp : w.cell? ⟨p, 0, none⟩ = some (.slice none 0 0)) :
    Calls Yba.prog 10 #[.pointer (some ⟨p, 0, none⟩)] w fun e w' => e = .returned (.int .i64 0) ∧ w' = w := by
  go_enter Yba.func10, Yba.ntmps10
  go_wp2
  go_ret
  exact ⟨rfl, rfl⟩

/-- The cells of an empty policy set whose engine state is x, y. -/
abbrev set79 (x y : Value) : Array Value := #[.slice none 0 0, .int .u64 0, .pointer none, .nilFunc, .int .u64 0, .pointer none, .nilFunc, .pointer none, .int .u64 0, .pointer none, .nilFunc, .pointer none, .int .u64 0, .pointer none, .nilFunc, .pointer none, x, y]

theorem policies_nil (E : Nat) (w : World) (hc : w.cell? ⟨E, 0, none⟩ = some (.pointer none)) :
    Calls Yba.prog 26 #[.pointer (some ⟨E, 0, none⟩)] w fun e w' => e = .returned (.pointer (some ⟨w.heap.size, 0, none⟩)) ∧ w' = w.alloc (.cells (set79 .nilFunc (.pointer none)) 79) := by
  go_enter Yba.func26, Yba.ntmps26
  go_wp2_with (go_at_call 15; refine (load_nil E _ hc).mono ?_; rintro e w' ⟨rfl, rfl⟩)
  go_ret
  exact ⟨rfl, rfl⟩

theorem policies_some (E p : Nat) (c : Array Value) (w : World) (hc : w.cell? ⟨E, 0, none⟩ = some (.pointer (some ⟨p, 0, none⟩))) (hp : At w p c 79) (hs : c.size = 18) :
    Calls Yba.prog 26 #[.pointer (some ⟨E, 0, none⟩)] w fun e w' => e = .returned (.pointer (some ⟨p, 0, none⟩)) ∧ w' = w := by
  go_enter Yba.func26, Yba.ntmps26
  go_wp2_with (go_at_call 15; refine (load_some E p c _ hc hp hs).mono ?_; rintro e w' ⟨rfl, rfl⟩)
  go_ret
  exact ⟨rfl, rfl⟩
end Go.Proofs.Ybulkddrk
