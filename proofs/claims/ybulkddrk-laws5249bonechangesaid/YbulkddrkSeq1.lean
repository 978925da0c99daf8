import Derived.Test.YbulkddrkBase
namespace Go.Proofs.Ybulkddrk
open Go.RowKit Go.MuLone

/-- The committer of the sequence, told to let the change pass. -/
theorem commit_ok (C F : Nat) (p : Value) (s : ByteArray) (b : Bool) (n : Int) (w : World) (hn0 : 0 ≤ n) (hn1 : n < 9223372036854775807)
    (hC : w.cell? ⟨C, 0, none⟩ = some (.int .i64 n)) (zC : w.frozen? ⟨C, 0, none⟩ = false) (hF : w.cell? ⟨F, 0, none⟩ = some (.bool false)) (lC : C < w.heap.size) (lF : F < w.heap.size) (ne : F ≠ C) :
    Calls Yba.prog 16 #[.agg #[p, .string s, .bool b], .pointer (some ⟨C, 0, none⟩), .pointer (some ⟨F, 0, none⟩)] w fun e w' =>
      e = .returned .nilIface ∧ Below w.heap.size (w.setCell ⟨C, 0, none⟩ (.int .i64 (n + 1))) w' := by
  go_enter Yba.func16, Yba.ntmps16
  go_wp2
  go_ret
  exact ⟨rfl, (Below.refl _ _).alloc (by simp) _⟩

/-- The committer of the sequence, told to fail. -/
theorem commit_fails (C F : Nat) (p : Value) (s : ByteArray) (b : Bool) (n : Int) (w : World) (hn0 : 0 ≤ n) (hn1 : n < 9223372036854775807)
    (hC : w.cell? ⟨C, 0, none⟩ = some (.int .i64 n)) (zC : w.frozen? ⟨C, 0, none⟩ = false) (hF : w.cell? ⟨F, 0, none⟩ = some (.bool true)) (lC : C < w.heap.size) (lF : F < w.heap.size) (ne : F ≠ C) :
    Calls Yba.prog 16 #[.agg #[p, .string s, .bool b], .pointer (some ⟨C, 0, none⟩), .pointer (some ⟨F, 0, none⟩)] w fun e w' =>
      (∃ a, e = .returned (.iface 118 (.pointer (some a)))) ∧ Below w.heap.size (w.setCell ⟨C, 0, none⟩ (.int .i64 (n + 1))) w' := by
  go_enter Yba.func16, Yba.ntmps16
  go_wp2_with (go_at_call 8; refine (errorsNew _ _).mono ?_; rintro e w' ⟨rfl, rfl⟩)
  go_ret
  exact ⟨⟨_, rfl⟩, ((Below.refl _ _).alloc (by simp) _).alloc (by simp) _⟩

abbrev empty85 : Value := .agg #[.pointer none, .string ⟨#[]⟩, .bool false]

/-- The sequence's 'next': no set was in place. -/
theorem next_nil_ok (p OK X NF M PS : Nat) (w : World) (hp : w.cell? ⟨p, 0, none⟩ = some (.slice none 0 0)) (hX : w.cell? ⟨X, 0, none⟩ = some (.pointer none)) (hNF : w.cell? ⟨NF, 0, none⟩ = some (.bool false))
    (hM : w.cell? ⟨M, 0, none⟩ = some (.pointer (some ⟨PS, 0, none⟩))) (lp : p < w.heap.size) (lX : X < w.heap.size) (lNF : NF < w.heap.size) (lM : M < w.heap.size) :
    Calls Yba.prog 17 #[.pointer (some ⟨p, 0, none⟩), .pointer (some ⟨OK, 0, none⟩), .pointer (some ⟨X, 0, none⟩), .pointer (some ⟨NF, 0, none⟩), .pointer (some ⟨M, 0, none⟩)] w fun e w' =>
      e = .returned (.tuple #[.agg #[.pointer (some ⟨PS, 0, none⟩), .string ⟨#[]⟩, .bool false], .nilIface]) ∧ Below w.heap.size w w' := by
  have hp' : ∀ o, (w.alloc o).cell? ⟨p, 0, none⟩ = some (.slice none 0 0) := fun o => ((Below.refl w.heap.size w).alloc (Nat.le_refl _) o).cell (p := ⟨p, 0, none⟩) lp ▸ hp
  go_enter Yba.func17, Yba.ntmps17
  go_wp2_with (go_at_call 10; refine (len_zero p _ (hp' _)).mono ?_; rintro e w' ⟨rfl, rfl⟩)
  exact bodyPost_ret (v := .tuple #[.agg #[.pointer (some ⟨PS, 0, none⟩), .string ⟨#[]⟩, .bool false], .nilIface]) (by simp [results, Yba.results17, go_sem]) rfl ⟨rfl, (Below.refl _ _).alloc (by simp) _⟩

theorem next_nil_fails (p OK X NF M : Nat) (w : World) (hp : w.cell? ⟨p, 0, none⟩ = some (.slice none 0 0)) (hX : w.cell? ⟨X, 0, none⟩ = some (.pointer none)) (hNF : w.cell? ⟨NF, 0, none⟩ = some (.bool true))
    (lp : p < w.heap.size) (lX : X < w.heap.size) (lNF : NF < w.heap.size) :
    Calls Yba.prog 17 #[.pointer (some ⟨p, 0, none⟩), .pointer (some ⟨OK, 0, none⟩), .pointer (some ⟨X, 0, none⟩), .pointer (some ⟨NF, 0, none⟩), .pointer (some ⟨M, 0, none⟩)] w fun e w' =>
      (∃ a, e = .returned (.tuple #[empty85, .iface 118 (.pointer (some a))])) ∧ Below w.heap.size w w' := by
  have hp' : ∀ o, (w.alloc o).cell? ⟨p, 0, none⟩ = some (.slice none 0 0) := fun o => ((Below.refl w.heap.size w).alloc (Nat.le_refl _) o).cell (p := ⟨p, 0, none⟩) lp ▸ hp
  go_enter Yba.func17, Yba.ntmps17
  go_wp2_with (first | (go_at_call 10; refine (len_zero p _ (hp' _)).mono ?_; rintro e w' ⟨rfl, rfl⟩) | (go_at_call 8; refine (errorsNew _ _).mono ?_; rintro e w' ⟨rfl, rfl⟩))
  exact bodyPost_ret (v := .tuple #[empty85, .iface 118 (.pointer (some ⟨w.heap.size + 1, 0, none⟩))]) (by simp [results, Yba.results17, go_sem]) rfl ⟨⟨_, rfl⟩, ((Below.refl _ _).alloc (by simp) _).alloc (by simp) _⟩

set_option maxRecDepth 100000 in
/-- The sequence's 'next': the set of the last change that went through is in place. -/
theorem next_some_ok (p OK X NF M PS : Nat) (w : World) (hX : w.cell? ⟨X, 0, none⟩ = some (.pointer (some ⟨p, 0, none⟩))) (hNF : w.cell? ⟨NF, 0, none⟩ = some (.bool false))
    (hM : w.cell? ⟨M, 0, none⟩ = some (.pointer (some ⟨PS, 0, none⟩))) (lX : X < w.heap.size) (lNF : NF < w.heap.size) (lM : M < w.heap.size) :
    Calls Yba.prog 17 #[.pointer (some ⟨p, 0, none⟩), .pointer (some ⟨OK, 0, none⟩), .pointer (some ⟨X, 0, none⟩), .pointer (some ⟨NF, 0, none⟩), .pointer (some ⟨M, 0, none⟩)] w fun e w' =>
      e = .returned (.tuple #[.agg #[.pointer (some ⟨PS, 0, none⟩), .string ⟨#[]⟩, .bool false], .nilIface]) ∧ Below w.heap.size w w' := by
  have hq := neq23
  go_enter Yba.func17, Yba.ntmps17
  go_wp2
  exact bodyPost_ret (v := .tuple #[.agg #[.pointer (some ⟨PS, 0, none⟩), .string ⟨#[]⟩, .bool false], .nilIface]) (by simp [results, Yba.results17, go_sem]) rfl ⟨rfl, (Below.refl _ _).alloc (by simp) _⟩

set_option maxRecDepth 100000 in
theorem next_some_fails (p OK X NF M : Nat) (w : World) (hX : w.cell? ⟨X, 0, none⟩ = some (.pointer (some ⟨p, 0, none⟩))) (hNF : w.cell? ⟨NF, 0, none⟩ = some (.bool true))
    (lX : X < w.heap.size) (lNF : NF < w.heap.size) :
    Calls Yba.prog 17 #[.pointer (some ⟨p, 0, none⟩), .pointer (some ⟨OK, 0, none⟩), .pointer (some ⟨X, 0, none⟩), .pointer (some ⟨NF, 0, none⟩), .pointer (some ⟨M, 0, none⟩)] w fun e w' =>
      (∃ a, e = .returned (.tuple #[empty85, .iface 118 (.pointer (some a))])) ∧ Below w.heap.size w w' := by
  have hq := neq23
  go_enter Yba.func17, Yba.ntmps17
  go_wp2_with (go_at_call 8; refine (errorsNew _ _).mono ?_; rintro e w' ⟨rfl, rfl⟩)
  exact bodyPost_ret (v := .tuple #[empty85, .iface 118 (.pointer (some ⟨w.heap.size + 1, 0, none⟩))]) (by simp [results, Yba.results17, go_sem]) rfl ⟨⟨_, rfl⟩, ((Below.refl _ _).alloc (by simp) _).alloc (by simp) _⟩
end Go.Proofs.Ybulkddrk
