import Derived.Test.YbulkddtoFmtNew
import Derived.ArgAppend
namespace Go.Proofs.YbulkddtoFmt
open Go.RowKit Go.Extern.Stop Go.Stop Go.Extern
set_option linter.unusedVariables false
set_option linter.unusedSimpArgs false

theorem Ybaf.info31 : (Ybaf.prog.info? 31).map (fun i => (i.zero, i.size, i.bytes)) = some (some .nilFunc, 1, 8) := by kernel_rfl

/-- append of one value where there is room. -/
theorem wpList_append_room1 {P : Program} (w : World) {ops : Array Oper} {rest : List Oper} {o : Oper} {a : Act} {Q : Exit → Act → World → Prop} (hgd : o.guard = none) (s x : Operand) (t : TypeId)
    (ho : o.op = .call { callee := .builtin .append, args := #[s, x], argTypes := #[t, t] }) (e : TypeId) (i : TypeInfo) (ht : P.underlying t = some (.slice e)) (hi : P.info? e = some i) (hsz : i.size = 1)
    (b k cap : Nat) (hs : a.eval s = .slice (some ⟨b, 0, none⟩) k cap) (ad : Addr) (u : Value) (hx : a.eval x = .slice (some ad) 1 1) (hu : ∀ j v, [u][j]? = some v → w.cell? (ad.add j) = some v) (h1 : u.oneCell' = true)
    (hroom : k + 1 ≤ cap) (hc : (w.cell? ⟨b, k, none⟩).isSome = true) (hf : w.frozen? ⟨b, k, none⟩ = false)
    (h : wpList P ops Q rest (a.put o.dst (.slice (some ⟨b, 0, none⟩) (k + 1) cap)) (w.setCell ⟨b, k, none⟩ u)) : wpList P ops Q (o :: rest) a w := by
  refine wpList_plain hgd fun K hK => ?_
  have hr := run_append_room_cells (P := P) w t o.type e i ht hi b 0 k cap ad 1 1 [u] (by rw [hsz]; rfl) hu (by intro v hv; simp at hv; subst hv; exact h1) hroom
    (by intro j hj; have : j = 0 := by simpa using hj
        subst this; rw [hsz]; simpa using hc) (by intro j hj; have : j = 0 := by simpa using hj
                                                  subst this; rw [hsz]; simpa using hf)
  rw [hsz] at hr
  simp only [Nat.mul_one, Nat.zero_add] at hr
  unfold Oper.wp execOp
  simp only [ho, resolve, invoke, builtin, Sem.run_bind, Sem.run_pure, Result.andThen_ok, List.map_toArray, List.map_cons, List.map_nil, hs, hx, hr]
  exact hK _ _ h

/-- The three cells of each operation that came in. -/
def Ops (w : World) (b off n : Nat) (os : Nat → Op3) : Prop := ∀ j, j < n → w.cell? ⟨b, off + j * 3, none⟩ = some (.int .u8 (os j).op) ∧ w.cell? ⟨b, off + j * 3 + 1, none⟩ = some (.int .u64 (os j).v) ∧ w.cell? ⟨b, off + j * 3 + 2, none⟩ = some (.int .u8 (os j).m)

/-- What stands at round k of the law's first loop. -/
def Inv (w : World) (os : Nat → Op3) (n k : Nat) (wr : World) : Prop :=
  ∃ cur, At wr (w.heap.size + 3) cur 31 ∧ cur.size = n ∧ (∀ j, j < k → ∃ v, cur[j]? = some v ∧ Clo wr wr.heap.size w.heap.size (w.heap.size + 1) (w.heap.size + 2) j (os j) v) ∧
    At wr w.heap.size #[.slice none 0 0] 24 ∧ At wr (w.heap.size + 1) #[.pointer none] 25 ∧ At wr (w.heap.size + 2) #[.bool true] 4 ∧ Below w.heap.size w wr

/-- A round's work on the memory: new boxes, and one cell of the slice of closures. -/
theorem Inv.step {w wr W : World} {os : Nat → Op3} {n k : Nat} (h : Inv w os n k wr) (hk : k < n) (e : Below wr.heap.size wr W) {IDX INN b : Nat} {v : Value}
    (hv : v = .func (Fn.func 7) #[] #[.pointer (some ⟨w.heap.size, 0, none⟩), .pointer (some ⟨IDX, 0, none⟩), .pointer (some ⟨w.heap.size + 1, 0, none⟩), .pointer (some ⟨w.heap.size + 2, 0, none⟩), .pointer (some ⟨INN, 0, none⟩)])
    (h1 : At W IDX #[.int .i64 k] 3) (h2 : At W INN #[.func (Fn.func (fnOf (os k))) #[] #[.pointer (some ⟨b, 0, none⟩)]] 31) (h3 : At W b #[valOf (os k)] (tyOf (os k)))
    (n1 : wr.heap.size ≤ IDX) (n2 : wr.heap.size ≤ INN) (n3 : wr.heap.size ≤ b) : Inv w os n (k + 1) (W.setCell ⟨w.heap.size + 3, k, none⟩ v) := by
  obtain ⟨cur, hS, hsz, hcl, hL, hSe, hA, hB⟩ := h
  have lS := hS.lt
  have oth : ∀ {x c T}, At W x c T → x ≠ w.heap.size + 3 → At (W.setCell ⟨w.heap.size + 3, k, none⟩ v) x c T := fun hx hne => hx.other (a := ⟨w.heap.size + 3, k, none⟩) hne _
  have sz : (W.setCell ⟨w.heap.size + 3, k, none⟩ v).heap.size = W.heap.size := by simp [World.setCell]
  refine ⟨_, (hS.below e).set k v, by simpa using hsz, ?_, oth (hL.below e) (by omega), oth (hSe.below e) (by omega), oth (hA.below e) (by omega), ?_⟩
  · intro j hj
    by_cases hjk : j = k
    · subst hjk
      refine ⟨v, by simp [hsz, hk], IDX, INN, b, hv, oth h1 (by omega), oth h2 (by omega), oth h3 (by omega), ?_, ?_, ?_⟩
      · rw [sz]; exact h1.lt
      · rw [sz]; exact h2.lt
      · rw [sz]; exact h3.lt
    · obtain ⟨u, hu, I, J, B, r1, r2, r3, r4, l1, l2, l3⟩ := hcl j (by omega)
      have neJ : J ≠ w.heap.size + 3 := by
        rintro rfl
        obtain ⟨u0, hu0, _, _, _, e0, _⟩ := hcl 0 (by omega)
        unfold At at r3 hS
        rw [r3] at hS
        injection hS with hS
        injection hS with hS
        subst hS
        simp at hu0
        rw [e0] at hu0
        injection hu0 with hf
        injection hf with hf
        unfold fnOf at hf
        split at hf
        · cases hf
        · split at hf <;> cases hf
      refine ⟨u, by rw [Array.getElem?_setIfInBounds_ne (by omega)]; exact hu, I, J, B, r1, oth (r2.below e) (r2.ne hS (by decide)), oth (r3.below e) neJ, oth (r4.below e) (r4.ne hS (by unfold tyOf; split <;> decide)), ?_, ?_, ?_⟩ <;> (rw [sz]; have := e.size; omega)
  · exact below_cell (below_more hB e hB.size) (by omega) _
end Go.Proofs.YbulkddtoFmt
