import Derived.Test.YbulkddxiJAhi
import Derived.Test.YbulkddxiJBhi
import Derived.Test.YbulkddxiLawBase2
namespace Go.Proofs.Ybulkddxi
open Go.RowKit
set_option linter.unusedVariables false
set_option linter.unusedSimpArgs false

theorem rejoin_hi (eb S n i p tot : Nat) (B : Nat → Nat) (n1 n2 : Nat) (E1 L1 E2 L2 : Nat → Int) (w : World) (hp : p + 1 < n) (hn : n ≤ 400) (hi : i = p ∨ (i = p + 1 ∧ n = p + 2)) (he : At w eb (edC S n n tot) 44) (hS : At w S (pts B n) 26)
    (a1 : 0 < n1) (a2 : n1 ≤ 43) (b1 : 0 < n2) (b2 : n2 ≤ 43) (hl : At w (B p) (leafA 0 n1 E1 L1) 36) (hr : At w (B (p + 1)) (leafA 0 n2 E2 L2) 36) (hm : ¬ n1 + n2 ≤ 43) :
    Calls Yba.prog 5 #[.pointer (some ⟨eb, 0, none⟩), .int .i64 i] w fun e w' => e = .returned (.tuple #[]) ∧ ∃ c1 c2, JoinHi w eb S n p tot B n1 n2 E1 L1 E2 L2 c1 c2 w' := by
  obtain ⟨k, rfl⟩ : ∃ k, n = k + 1 := ⟨n - 1, by omega⟩
  rcases hi with rfl | ⟨rfl, hk⟩
  · exact rejoin_Ahi eb S k i tot B n1 n2 E1 L1 E2 L2 w (by omega) (by omega) he hS a1 a2 b1 b2 _ _ rfl rfl hl hr hS.lt he.lt _ hm
      (fun _ w' c1 c2 h1 h2 h3 h4 h5 h6 h7 => ⟨rfl, c1, c2, h1, h2, h3, fun j hj => by rw [h4.cell, pts_at _ hj], h5, h6, h7⟩)
  · have hk' : k = p + 1 := by omega
    have h := rejoin_Bhi eb S k p tot B n1 n2 E1 L1 E2 L2 w (by omega) (by omega) hk' he hS a1 a2 b1 b2 _ _ rfl rfl hl hr hS.lt he.lt (fun e w' => e = .returned (.tuple #[]) ∧ ∃ c1 c2, JoinHi w eb S (k + 1) p tot B n1 n2 E1 L1 E2 L2 c1 c2 w') hm
      (fun _ w' c1 c2 h1 h2 h3 h4 h5 h6 h7 => ⟨rfl, c1, c2, h1, h2, h3, fun j hj => by rw [h4.cell, pts_at _ hj], h5, h6, h7⟩)
    rw [show ((k : Nat) : Int) = ((p + 1 : Nat) : Int) by rw [hk']] at h
    exact h
end Go.Proofs.Ybulkddxi
