import Derived.Test.YbulkddryCWalk
import Derived.ProofKit
import Derived.Deep.Slices
namespace Go.Proofs.Ybulkddry
open Go.RowKit Go.ChangeShapes Go.WideShapes Go.Deep

theorem cells42 : Yba.prog.cellsOf 42 = 4 := by kernel_rfl
theorem cells26 : Yba.prog.cellsOf 26 = 1 := by kernel_rfl
theorem cells3 : Yba.prog.cellsOf 3 = 1 := by kernel_rfl
theorem cells4 : Yba.prog.cellsOf 4 = 1 := by kernel_rfl

/-- One tell, opened. -/
theorem open_tell {H : Type} {enc : TypeId × Value → H} {W : World} {base : Nat} {spare : Nat → Bool} {held : Bool} {fuel : Nat} {cs : List Value} {x : DataW H × List MemPlace}
    (h : DataW.trod enc Yba.prog W base spare held fuel 42 cs = some x) : ∃ (a r : Int) (t : Bool) (n : Int), cs = [.int .u64 a, .int .i64 r, .bool t, .int .i64 n] := by
  obtain ⟨xs, m, _, _, hl, _, hf⟩ := DataW.trod_struct Yba.underlying42 h
  rw [cells42] at hl
  match cs, hl with
  | [c0, c1, c2, c3], _ =>
    have hx : xs.length = 4 := by assumption
    match xs, hx with
    | [x0, x1, x2, x3], _ =>
      have g0 := hf 0 _ rfl
      have g1 := hf 1 _ rfl
      have g2 := hf 2 _ rfl
      have g3 := hf 3 _ rfl
      simp [cells26, cells3, cells4] at g0 g1 g2 g3
      obtain ⟨a, e0, _⟩ := DataW.trod_int Yba.underlying26 g0
      obtain ⟨r, e1, _⟩ := DataW.trod_int Yba.underlying3 g1
      obtain ⟨t, e2, _⟩ := DataW.trod_bool Yba.underlying4 g2
      obtain ⟨n, e3, _⟩ := DataW.trod_int Yba.underlying3 g3
      simp at e0 e1 e2 e3
      exact ⟨a, r, t, n, by rw [e0, e1, e2, e3]⟩

/-- What the walk is told of the tells that came in. -/
def IsTells (w : World) (a : Option Addr) (len : Nat) (T : Tells) : Prop :=
  ∀ k, k < len → ∃ b off, a = some ⟨b, off, none⟩ ∧ b < w.heap.size ∧ ∀ j, j < 4 → w.cell? ⟨b, off + (k * 4 + j), none⟩ = some (T.cell (k * 4 + j))

theorem open_tells {H : Type} {enc : TypeId × Value → H} {W : World} {base : Nat} {spare : Nat → Bool} {held : Bool} {fuel : Nat} {a : Option Addr} {len cap : Nat} {x : DataW H × List MemPlace}
    (h : DataW.trod enc Yba.prog W base spare held fuel 36 [.slice a len cap] = some x) : ∃ T, IsTells W a len T := by
  rcases open_slice Yba.underlying36 h with ⟨hcs, _⟩ | ⟨ad, l, c, m, n, D, Pl, hcs, _, hl, hm, hmm, _, hx⟩
  · simp at hcs
    obtain ⟨rfl, rfl, rfl⟩ := hcs
    exact ⟨zeros, fun k hk => absurd hk (Nat.not_lt_zero _)⟩
  · simp at hcs
    obtain ⟨rfl, rfl, rfl⟩ := hcs
    have hlm : len ≤ m := by rw [hmm]; split <;> omega
    rw [cells42] at hx
    have key : ∀ i, i < len → ∃ q : Int × Int × Bool × Int, ∀ j, j < 4 → W.cell? ((ad.add (i * 4)).add j) = [Value.int .u64 q.1, .int .i64 q.2.1, .bool q.2.2.1, .int .i64 q.2.2.2][j]? := fun i hi => by
      obtain ⟨cs', h1, h2⟩ := hx i (by omega)
      obtain ⟨a, r, t, n, rfl⟩ := open_tell h2
      obtain ⟨_, _, h3⟩ := World.cells?_some h1
      exact ⟨(a, r, t, n), h3⟩
    obtain ⟨f, hf⟩ := choose_lt (α := Int × Int × Bool × Int) key
    refine ⟨⟨fun i => (f i).1, fun i => (f i).2.1, fun i => (f i).2.2.1, fun i => (f i).2.2.2⟩, fun k hk => ?_⟩
    obtain ⟨b, off, spot⟩ := ad
    have h0 := hf k hk 0 (by omega)
    have hspot : spot = none := by
      have := World.cell?_spot ((hf 0 (by omega) 0 (by omega)).trans rfl)
      simpa [Addr.add] using this
    subst hspot
    have hadd : ∀ j, ((⟨b, off, none⟩ : Addr).add (k * 4)).add j = ⟨b, off + (k * 4 + j), none⟩ := fun j => by rw [add_add, add_plain]
    refine ⟨b, off, rfl, ?_, fun j hj => ?_⟩
    · rw [hadd] at h0
      exact Nat.lt_of_not_le (fun hn => by simp [World.cell?, Array.getElem?_eq_none hn] at h0)
    · have := hf k hk j hj
      rw [hadd] at this
      rw [this]
      have hj4 : j = 0 ∨ j = 1 ∨ j = 2 ∨ j = 3 := by omega
      rcases hj4 with rfl | rfl | rfl | rfl
      · rw [Nat.add_zero, Tells.cell0]; rfl
      · rw [Tells.cell1]; rfl
      · rw [Tells.cell2]; rfl
      · rw [Tells.cell3]; rfl
end Go.Proofs.Ybulkddry
