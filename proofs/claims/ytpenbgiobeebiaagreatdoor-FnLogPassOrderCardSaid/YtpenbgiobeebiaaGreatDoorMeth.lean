/- The encoder's methods, found once. -/
import Derived.Test.YtpenbgiobeebiaaGreatDoorPasC
namespace Go.Proofs.YtpenbgiobeebiaaGreatDoor
open Go.RowKit
theorem m92 (w : World) : Sem.run Tryz.prog (method 318 58 (.agg #[]) "AppendEndMarker") w = .ok (92, .agg #[]) w := by kernel_rfl
theorem m113 (w : World) : Sem.run Tryz.prog (method 318 58 (.agg #[]) "AppendLineBreak") w = .ok (113, .agg #[]) w := by kernel_rfl
theorem m86 (w : World) : Sem.run Tryz.prog (method 318 58 (.agg #[]) "AppendBeginMarker") w = .ok (86, .agg #[]) w := by kernel_rfl
theorem m112 (w : World) : Sem.run Tryz.prog (method 318 58 (.agg #[]) "AppendKey") w = .ok (112, .agg #[]) w := by kernel_rfl
theorem m117 (w : World) : Sem.run Tryz.prog (method 318 58 (.agg #[]) "AppendString") w = .ok (117, .agg #[]) w := by kernel_rfl
theorem m139 (L : Nat) (w : World) : Sem.run Tryz.prog (method 318 64 (adV L) "WriteLevel") w = .ok (139, adV L) w := by kernel_rfl
end Go.Proofs.YtpenbgiobeebiaaGreatDoor
