import Derived.Test.YbulkddryRows
import Derived.WalkKit
import Derived.Below
import Derived.BigRegion
import Derived.BigQuiet
import Derived.Deep.QuietTactic
import Derived.Deep.RegionWith
import Derived.Deep.OwnRows
import Derived.Handy
import Derived.WalkSmall
namespace Go.Proofs.Ybulkddry
open Go.RowKit

/-- An event of the queue. -/
structure Ev where
  at' : Int
  seq : Int
  step : Bool
  frm : Int
  to : Int
  msg : Int
  round : Int

def Ev.cell (e : Ev) (j : Nat) : Value :=
  if j = 0 then .int .i64 e.at' else if j = 1 then .int .u64 e.seq else if j = 2 then .bool e.step else if j = 3 then .int .i64 e.frm else if j = 4 then .int .i64 e.to else if j = 5 then .int .i64 e.msg else .int .i64 e.round
/-- The cells of a row of events. -/
def rowc (h : Nat → Ev) (j : Nat) : Value := (h (j / 7)).cell (j % 7)

theorem rowc_at (h : Nat → Ev) (i j : Nat) (hj : j < 7) : rowc h (i * 7 + j) = (h i).cell j := by
  unfold rowc
  rw [show (i * 7 + j) / 7 = i by omega, show (i * 7 + j) % 7 = j by omega]

abbrev Ev.agg (e : Ev) : Value := .agg #[.int .i64 e.at', .int .u64 e.seq, .bool e.step, .int .i64 e.frm, .int .i64 e.to, .int .i64 e.msg, .int .i64 e.round]

def upd (h : Nat → Ev) (i : Nat) (e : Ev) : Nat → Ev := fun j => if j = i then e else h j
theorem upd_same (h : Nat → Ev) (i : Nat) (e : Ev) : upd h i e i = e := by simp [upd]
theorem upd_other (h : Nat → Ev) {i j : Nat} (e : Ev) (hj : j ≠ i) : upd h i e j = h j := by simp [upd, hj]

/-- Block b is a row of type t, not frozen, whose first n cells are f. -/
def rowLe (w : World) (b : Nat) (t : TypeId) (n : Nat) (f : Nat → Value) : Prop :=
  ∃ c : Array Value, w.heap[b]? = some (.cells c t (0, 0)) ∧ n ≤ c.size ∧ ∀ i, i < n → c[i]? = some (f i)
namespace rowLe
variable {w : World} {b : Nat} {t : TypeId} {n : Nat} {f g : Nat → Value}
theorem cell (h : rowLe w b t n f) {i : Nat} (hi : i < n) : w.cell? ⟨b, i, none⟩ = some (f i) := by
  obtain ⟨c, hb, _, hc⟩ := h
  simp [World.cell?, hb, hc i hi]
theorem frozen (h : rowLe w b t n f) (i : Nat) : w.frozen? ⟨b, i, none⟩ = false := by
  obtain ⟨c, hb, _, _⟩ := h
  simp [World.frozen?, hb]
theorem lt (h : rowLe w b t n f) : b < w.heap.size := by
  obtain ⟨c, hb, _, _⟩ := h
  exact (Array.getElem?_eq_some_iff.1 hb).1
theorem congr (h : rowLe w b t n f) (e : ∀ i, i < n → f i = g i) : rowLe w b t n g := by
  obtain ⟨c, hb, hn, hc⟩ := h
  exact ⟨c, hb, hn, fun i hi => by rw [hc i hi, e i hi]⟩
theorem of_block {w' : World} (h : rowLe w b t n f) (e : w'.heap[b]? = w.heap[b]?) : rowLe w' b t n f := by
  obtain ⟨c, hb, hn, hc⟩ := h
  exact ⟨c, e.trans hb, hn, hc⟩
theorem set (h : rowLe w b t n f) (i : Nat) (v : Value) : rowLe (w.setCell ⟨b, i, none⟩ v) b t n (fun j => if j = i then v else f j) := by
  obtain ⟨c, hb, hn, hc⟩ := h
  refine ⟨c.setIfInBounds i v, ?_, by simpa using hn, fun j hj => ?_⟩
  · simp [World.setCell, Array.getElem?_modify, hb]
  · rw [Array.getElem?_setIfInBounds]
    by_cases e : j = i
    · subst e
      simp [show j < c.size by omega]
    · rw [if_neg (fun h => e h.symm)]
      show c[j]? = some (if j = i then v else f j)
      rw [if_neg e]
      exact hc j hj
theorem setOther (h : rowLe w b t n f) {a : Addr} (ha : b ≠ a.block) (v : Value) : rowLe (w.setCell a v) b t n f := h.of_block (Below.heap_setCell _ _ _ _ ha)
theorem alloc (h : rowLe w b t n f) (o : Obj) : rowLe (w.alloc o) b t n f := h.of_block (Below.heap_alloc _ _ _ h.lt)
theorem le (h : rowLe w b t n f) {m : Nat} (hm : m ≤ n) : rowLe w b t m f := by
  obtain ⟨c, hb, hn, hc⟩ := h
  exact ⟨c, hb, by omega, fun i hi => hc i (by omega)⟩
end rowLe

/-- Block b holds the events h, N of them at least. -/
def Holds (w : World) (b N : Nat) (h : Nat → Ev) : Prop := rowLe w b 28 (N * 7) (rowc h)

theorem Holds.cell0 {w : World} {b N i : Nat} {h : Nat → Ev} (H : Holds w b N h) (hi : i < N) : w.cell? ⟨b, i * 7, none⟩ = some (.int .i64 (h i).at') :=
  (rowLe.cell H (by omega)).trans (by rw [show i * 7 = i * 7 + 0 by omega, rowc_at _ _ _ (by omega)]; rfl)
theorem Holds.cell1 {w : World} {b N i : Nat} {h : Nat → Ev} (H : Holds w b N h) (hi : i < N) : w.cell? ⟨b, i * 7 + 1, none⟩ = some (.int .u64 (h i).seq) :=
  (rowLe.cell H (by omega)).trans (by rw [rowc_at _ _ _ (by omega)]; rfl)
theorem Holds.cell2 {w : World} {b N i : Nat} {h : Nat → Ev} (H : Holds w b N h) (hi : i < N) : w.cell? ⟨b, i * 7 + 2, none⟩ = some (.bool (h i).step) :=
  (rowLe.cell H (by omega)).trans (by rw [rowc_at _ _ _ (by omega)]; rfl)
theorem Holds.cell3 {w : World} {b N i : Nat} {h : Nat → Ev} (H : Holds w b N h) (hi : i < N) : w.cell? ⟨b, i * 7 + 3, none⟩ = some (.int .i64 (h i).frm) :=
  (rowLe.cell H (by omega)).trans (by rw [rowc_at _ _ _ (by omega)]; rfl)
theorem Holds.cell4 {w : World} {b N i : Nat} {h : Nat → Ev} (H : Holds w b N h) (hi : i < N) : w.cell? ⟨b, i * 7 + 4, none⟩ = some (.int .i64 (h i).to) :=
  (rowLe.cell H (by omega)).trans (by rw [rowc_at _ _ _ (by omega)]; rfl)
theorem Holds.cell5 {w : World} {b N i : Nat} {h : Nat → Ev} (H : Holds w b N h) (hi : i < N) : w.cell? ⟨b, i * 7 + 5, none⟩ = some (.int .i64 (h i).msg) :=
  (rowLe.cell H (by omega)).trans (by rw [rowc_at _ _ _ (by omega)]; rfl)
theorem Holds.cell6 {w : World} {b N i : Nat} {h : Nat → Ev} (H : Holds w b N h) (hi : i < N) : w.cell? ⟨b, i * 7 + 6, none⟩ = some (.int .i64 (h i).round) :=
  (rowLe.cell H (by omega)).trans (by rw [rowc_at _ _ _ (by omega)]; rfl)

/-- An event stored into the row. -/
def putEv (w : World) (b i : Nat) (e : Ev) : World :=
  ((((((w.setCell ⟨b, i * 7, none⟩ (.int .i64 e.at')).setCell ⟨b, i * 7 + 1, none⟩ (.int .u64 e.seq)).setCell ⟨b, i * 7 + 2, none⟩ (.bool e.step)).setCell ⟨b, i * 7 + 3, none⟩ (.int .i64 e.frm)).setCell ⟨b, i * 7 + 4, none⟩ (.int .i64 e.to)).setCell ⟨b, i * 7 + 5, none⟩ (.int .i64 e.msg)).setCell ⟨b, i * 7 + 6, none⟩ (.int .i64 e.round)

/-- (the walk's own spelling) -/
theorem Holds.put {w : World} {b N : Nat} {h : Nat → Ev} (H : Holds w b N h) (i : Nat) (e : Ev) : Holds (putEv w b i e) b N (upd h i e) := by
  refine rowLe.congr (((((((rowLe.set H _ _).set _ _).set _ _).set _ _).set _ _).set _ _).set _ _) fun j _ => ?_
  by_cases hj : j / 7 = i
  · have h7 : j = i * 7 ∨ j = i * 7 + 1 ∨ j = i * 7 + 2 ∨ j = i * 7 + 3 ∨ j = i * 7 + 4 ∨ j = i * 7 + 5 ∨ j = i * 7 + 6 := by omega
    rcases h7 with rfl | rfl | rfl | rfl | rfl | rfl | rfl
    · rw [if_neg (by omega), if_neg (by omega), if_neg (by omega), if_neg (by omega), if_neg (by omega), if_neg (by omega), if_pos rfl]
      rw [show i * 7 = i * 7 + 0 by omega, rowc_at _ _ _ (by omega), upd_same]; rfl
    · rw [if_neg (by omega), if_neg (by omega), if_neg (by omega), if_neg (by omega), if_neg (by omega), if_pos rfl, rowc_at _ _ _ (by omega), upd_same]; rfl
    · rw [if_neg (by omega), if_neg (by omega), if_neg (by omega), if_neg (by omega), if_pos rfl, rowc_at _ _ _ (by omega), upd_same]; rfl
    · rw [if_neg (by omega), if_neg (by omega), if_neg (by omega), if_pos rfl, rowc_at _ _ _ (by omega), upd_same]; rfl
    · rw [if_neg (by omega), if_neg (by omega), if_pos rfl, rowc_at _ _ _ (by omega), upd_same]; rfl
    · rw [if_neg (by omega), if_pos rfl, rowc_at _ _ _ (by omega), upd_same]; rfl
    · rw [if_pos rfl, rowc_at _ _ _ (by omega), upd_same]; rfl
  · rw [if_neg (by omega), if_neg (by omega), if_neg (by omega), if_neg (by omega), if_neg (by omega), if_neg (by omega), if_neg (by omega)]
    unfold rowc; rw [upd_other _ _ hj]

/-- Does a happen before b? -/
def bef (a b : Ev) : Bool := decide (a.at' < b.at') || (decide (a.at' = b.at') && decide (a.seq < b.seq))

set_option maxHeartbeats 1600000 in
theorem before_any (b N n cap i j : Nat) (h : Nat → Ev) (w : World) (H : Holds w b N h) (hi : i < n) (hj : j < n) (hn : n ≤ N) :
    Calls Yba.prog 13 #[.slice (some ⟨b, 0, none⟩) n cap, .int .i64 i, .int .i64 j] w fun e w' => e = .returned (.bool (bef (h i) (h j))) ∧ ∃ nq, w' = w.drewN nq := by
  have ci := H.cell0 (i := i) (by omega)
  have cj := H.cell0 (i := j) (by omega)
  have di := H.cell1 (i := i) (by omega)
  have dj := H.cell1 (i := j) (by omega)
  by_cases h1 : (h i).at' < (h j).at'
  · go_enter Yba.func13, Yba.ntmps13
    go_wp2_with fail
    go_quiet (fail)
    go_wp2
    go_ret
    exact ⟨by simp [bef, h1], _, rfl⟩
  · have hd1 : decide ((h i).at' < (h j).at') = false := by simpa using h1
    by_cases h2 : (h i).at' = (h j).at'
    · have hd2 : ((h i).at' == (h j).at') = true := by simpa using h2
      have H2 : Hid ((h i).at' = (h j).at') := h2
      clear h2
      go_enter Yba.func13, Yba.ntmps13
      go_wp2_with fail
      go_quiet (fail)
      go_wp2
      go_ret
      exact ⟨by simp [bef, H2.out], _, rfl⟩
    · have hd2 : ((h i).at' == (h j).at') = false := by simpa using h2
      go_enter Yba.func13, Yba.ntmps13
      go_wp2_with fail
      go_quiet (fail)
      go_wp2
      go_ret
      exact ⟨by simp [bef, h1, h2], _, rfl⟩
end Go.Proofs.Ybulkddry
