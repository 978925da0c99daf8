import Derived.Test.YbulkddtoDoorLawT
import Derived.Test.YbulkddtoDoorLawF
import Derived.OpenShut
namespace Go.Proofs.YbulkddtoDoor
open Go.RowKit

theorem law_any (g wt gr : Nat → Int) (a3 a4 : Int) (b5 b6 : Bool) (w : World) (hT : Tab w) (w3 : (Lit.int .u8 a3).wf = true) :
    Calls Ybad.prog 3 #[.agg (cells5 g), .agg (cells5 wt), .agg (cells5 gr), .int .u8 a3, .int .u16 a4, .bool b5, .bool b6] w fun e w' => e = .returned (.bool true) ∧ Below w.heap.size w w' := by
  have hb : 0 ≤ a3 ∧ a3 ≤ 255 := by
    simp [Lit.wf, IntKind.min, IntKind.max, IntKind.signed, IntKind.bits] at w3
    omega
  obtain ⟨n, rfl⟩ : ∃ n : Nat, a3 = n := ⟨a3.toNat, by omega⟩
  cases b6
  · exact law_false g wt gr n (n % 5) (by omega) rfl a4 b5 _ _ _ rfl rfl rfl w hT
  · exact law_true g wt gr n (n % 5) (by omega) rfl a4 b5 _ _ _ rfl rfl rfl w hT
end Go.Proofs.YbulkddtoDoor
