/- Floats: sign, not a number. -/
import Derived.Test.YtnfddblpenninaaDoorFixI
import Derived.WalkLawsBesides
namespace Go.Proofs.YtnfddblpenninaaDoor
open Go.RowKit

theorem bits_run (b : Nat) (w : World) : Sem.run Tryd.prog (callFunc 13 #[.float .f64 b]) w = .ok (.value (.int .u64 (b : Int))) w := by
  kernel_rfl
set_option maxRecDepth 100000 in
theorem nan_any (b : Nat) (w : World) : Calls Tryd.prog 10 #[.float .f64 b] w fun e w' => e = .returned (.bool (FloatKind.f64.format.order b b != some .eq)) ∧ w = w' := by
  go_enter Tryd.func10, Tryd.ntmps10
  go_wp2_with fail
  go_returns
  exact ⟨rfl, rfl⟩
set_option maxRecDepth 100000 in
theorem sign_any (b : Nat) (w : World) (_hb : b < 18446744073709551616) : Calls Tryd.prog 12 #[.float .f64 b] w fun e w' => e = .returned (.bool (decide (9223372036854775808 ≤ b))) ∧ w = w' := by
  have hr := bits_run b w
  go_enter Tryd.func12, Tryd.ntmps12
  go_wp2_with fail
  go_returns
  refine ⟨congrArg (fun b => Ending.returned (.bool b)) ?_, rfl⟩
  rw [decide_eq_decide]
  unfold wrap64
  omega
theorem sbits_run (b : Nat) (w : World) : Sem.run Tryd.prog (callFunc 54 #[.float .f64 b]) w = .ok (.value (.int .u64 (b : Int))) w := by
  kernel_rfl
theorem from_run (n : Int) (w : World) : Sem.run Tryd.prog (callFunc 34 #[.int .u64 n]) w = .ok (.value (.float .f64 n.toNat)) w := by
  kernel_rfl
end Go.Proofs.YtnfddblpenninaaDoor
