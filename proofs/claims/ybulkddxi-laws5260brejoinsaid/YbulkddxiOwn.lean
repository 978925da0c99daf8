import Derived.Test.YbulkddxiBase
namespace Go.Proofs.Ybulkddxi
open Go.RowKit
set_option linter.unusedVariables false
set_option linter.unusedSimpArgs false
attribute [local go_sem] zero36

/-- Blocks that were there, but S, are as they were. -/
structure Keep (S : Nat) (w w' : World) : Prop where
  os : w'.os = w.os
  tape : w'.tape = w.tape
  output : w'.output = w.output
  size : w.heap.size ≤ w'.heap.size
  block : ∀ j, j < w.heap.size → j ≠ S → w'.heap[j]? = w.heap[j]?
theorem Keep.trans {S : Nat} {a b c : World} (h : Keep S a b) (k : Keep S b c) : Keep S a c :=
  ⟨k.os.trans h.os, k.tape.trans h.tape, k.output.trans h.output, Nat.le_trans h.size k.size, fun j h1 h2 => (k.block j (Nat.lt_of_lt_of_le h1 h.size) h2).trans (h.block j h1 h2)⟩
theorem Keep.refl (S : Nat) (w : World) : Keep S w w := ⟨rfl, rfl, rfl, Nat.le_refl _, fun _ _ _ => rfl⟩
theorem At.keep {w w' : World} {S b : Nat} {c : Array Value} {T : TypeId} (h : At w b c T) (k : Keep S w w') (hb : b ≠ S) : At w' b c T := h.block (k.block b h.lt hb)
theorem leafA_one (ed n : Int) (E L : Nat → Int) : (leafA ed n E L).all (·.oneCell') = true := by
  rw [Array.all_eq_true_iff_forall_mem]
  intro v hv
  obtain ⟨i, hi, rfl⟩ := Array.mem_iff_getElem.1 hv
  have h := leafA_at ed n E L (i := i) (by simpa [leafA_size] using hi)
  rw [Array.getElem?_eq_getElem hi] at h
  rw [Option.some.inj h]
  unfold lcell qcell
  split
  · rfl
  · split
    · rfl
    · split
      · split <;> rfl
      · rfl

theorem size36 : (Yba.prog.info? 36).map (·.size) = some 604 := by kernel_rfl
theorem setRow_new (w : World) (a b : Array Value) (T : TypeId) : (w.alloc (.cells a T)).setRow w.heap.size b = w.alloc (.cells b T) := by
  unfold World.setRow World.alloc
  congr 1
  apply Array.ext
  · simp
  · intro k h1 h2
    simp only [Array.getElem_modify, Array.getElem_push]
    by_cases hk : k < w.heap.size
    · rw [if_neg (by omega), dif_pos hk, dif_pos hk]
    · have : k = w.heap.size := by simp at h2; omega
      subst this
      simp

set_option maxHeartbeats 1000000 in
theorem own_any (eb S b i k cap : Nat) (n : Int) (E L : Nat → Int) (w : World) (hi : i < k) (hk : k ≤ 400) (e0 : w.cell? ⟨eb, 0, none⟩ = some (.int .u64 1)) (e1 : w.cell? ⟨eb, 1, none⟩ = some (.slice (some ⟨S, 0, none⟩) k cap))
    (hp : w.cell? ⟨S, i, none⟩ = some (.pointer (some ⟨b, 0, none⟩))) (fp : w.frozen? ⟨S, i, none⟩ = false) (hb : At w b (leafA 0 n E L) 36) :
    Calls Yba.prog 9 #[.pointer (some ⟨eb, 0, none⟩), .int .i64 i] w fun e w' => e = .returned (.pointer (some ⟨w.heap.size, 0, none⟩)) ∧
      At w' w.heap.size (leafA 1 n E L) 36 ∧ (∀ ps, At w S ps 26 → At w' S (ps.setIfInBounds i (.pointer (some ⟨w.heap.size, 0, none⟩))) 26) ∧ Keep S w w' ∧ w'.heap.size = w.heap.size + 1 := by
  have b0 : w.cell? ⟨b, 0, none⟩ = some (.int .u64 0) := (hb.cell 0).trans (leafA_at _ _ _ _ (by omega))
  go_enter Yba.func9, Yba.ntmps9
  go_wp2_with fail
  go_quiet (fail)
  go_upto_region 5 with fail
  have i36 : ∀ ed n E L, (Yba.prog.info? 36).map (·.size) = some (leafA ed n E L).size := by intro ed n E L; rw [leafA_size]; exact size36
  have hN := At.new (w.drewN nq) (leafA 0 0 (fun _ => 0) (fun _ => 0)) 36
  have hb1 : At ((w.drewN nq).alloc (.cells (leafA 0 0 (fun _ => 0) (fun _ => 0)) 36)) b (leafA 0 n E L) 36 := (hb.drewN nq).alloc _
  have hne : w.heap.size ≠ b := by have := hb.lt; omega
  have hwr : ((w.drewN nq).alloc (.cells (leafA 0 0 (fun _ => 0) (fun _ => 0)) 36)).setRow w.heap.size (leafA 0 n E L) = (w.drewN nq).alloc (.cells (leafA 0 n E L) 36) := setRow_new (w.drewN nq) _ _ 36
  have lS : S < w.heap.size := cell_lt hp
  have leb : eb < w.heap.size := cell_lt e0
  have e0' : ((w.drewN nq).alloc (.cells (leafA 0 n E L) 36)).cell? ⟨eb, 0, none⟩ = some (.int .u64 1) := cell_keep (w := w.drewN nq) e0 (Below.heap_alloc _ _ _ leb)
  have e1' : ((w.drewN nq).alloc (.cells (leafA 0 n E L) 36)).cell? ⟨eb, 1, none⟩ = some (.slice (some ⟨S, 0, none⟩) k cap) := cell_keep (w := w.drewN nq) e1 (Below.heap_alloc _ _ _ leb)
  change Code.wp _ _ _ _ ((w.drewN nq).alloc (.cells (leafA 0 0 (fun _ => 0) (fun _ => 0)) 36))
  generalize hz : (leafA 0 0 (fun _ => 0) (fun _ => 0)) = zz at *
  have hzs : zz.size = (leafA 0 n E L).size := by rw [← hz, leafA_size, leafA_size]
  go_upto_region 6 with (first | (refine wpList_load_row rfl 36 (.tmp 28) rfl b rfl 36 (leafA 0 n E L) (0, 0) _ hb1 Yba.underlying36 rfl (i36 _ _ _ _) ?_) | (refine wpList_store_row rfl 36 (.tmp 30) (.tmp 29) rfl w.heap.size (leafA 0 n E L) rfl rfl 36 _ hN (i36 _ _ _ _) hzs (leafA_one _ _ _ _) ?_))
  rw [hwr]
  have hW := At.new (w.drewN nq) (leafA 0 n E L) 36
  have hp' : ((w.drewN nq).alloc (.cells (leafA 0 n E L) 36)).cell? ⟨S, i, none⟩ = some (.pointer (some ⟨b, 0, none⟩)) := cell_keep (w := w.drewN nq) hp (Below.heap_alloc _ _ _ lS)
  have fp' : ((w.drewN nq).alloc (.cells (leafA 0 n E L) 36)).frozen? ⟨S, i, none⟩ = false := by
    rw [World.frozen?_of_block (w := w.drewN nq) (Below.heap_alloc _ _ _ lS)]; exact fp
  have fin : ∀ ps, At w S ps 26 → At ((w.drewN nq).alloc (.cells (leafA 0 n E L) 36)) S ps 26 := fun ps h => (h.drewN nq).alloc _
  have kp : Keep S w ((w.drewN nq).alloc (.cells (leafA 0 n E L) 36)) := ⟨rfl, rfl, rfl, by simp, fun j h1 _ => Below.heap_alloc (w.drewN nq) _ _ h1⟩
  have sz : ((w.drewN nq).alloc (.cells (leafA 0 n E L) 36)).heap.size = w.heap.size + 1 := by simp
  clear hN hb1 hwr hz hzs e0 e1 hp fp hb b0 i36
  change At ((w.drewN nq).alloc (.cells (leafA 0 n E L) 36)) w.heap.size _ _ at hW
  generalize ((w.drewN nq).alloc (.cells (leafA 0 n E L) 36)) = W at *
  have c0 : W.cell? ⟨w.heap.size, 0, none⟩ = some (.int .u64 0) := (hW.cell 0).trans (leafA_at _ _ _ _ (by omega))
  have f0 := hW.frozen 0
  have neS : S ≠ w.heap.size := by omega
  have neE : eb ≠ w.heap.size := by omega
  go_wp2
  go_ret
  refine ⟨rfl, ?_, fun ps h => (((fin ps h).other (a := ⟨w.heap.size, 0, none⟩) neS (.int .u64 1)).set i _), ?_, ?_⟩
  · have := (hW.set 0 (.int .u64 1)).other (a := ⟨S, i, none⟩) (fun h => neS h.symm) (.pointer (some ⟨w.heap.size, 0, none⟩))
    rw [leafA_ed] at this
    exact this
  · exact ⟨kp.os, kp.tape, kp.output, by simp [World.setCell]; omega, fun j h1 h2 => (Below.heap_setCell _ _ _ _ h2).trans ((Below.heap_setCell _ _ _ _ (by show j ≠ w.heap.size; omega)).trans (kp.block j h1 h2))⟩
  · simpa [World.setCell] using sz
end Go.Proofs.Ybulkddxi
