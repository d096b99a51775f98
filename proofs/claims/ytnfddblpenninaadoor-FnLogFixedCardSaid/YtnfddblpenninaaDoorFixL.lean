/- A float's absolute value; whether it is infinite. -/
import Derived.Test.YtnfddblpenninaaDoorFixK
namespace Go.Proofs.YtnfddblpenninaaDoor
open Go.RowKit

theorem andNot_top (b : Nat) (hb : b < 18446744073709551616) : bits .andNot .u64 (b : Int) 9223372036854775808 = ((b % 9223372036854775808 : Nat) : Int) := by
  show IntKind.u64.wrap ((BitVec.ofInt 64 (b : Int) &&& ~~~BitVec.ofInt 64 9223372036854775808).toNat : Int) = _
  have h1 : (BitVec.ofInt 64 (b : Int)).toNat = b := by
    rw [BitVec.ofInt_natCast, BitVec.toNat_ofNat]
    exact Nat.mod_eq_of_lt (by omega)
  have h2 : (~~~BitVec.ofInt 64 9223372036854775808).toNat = 2 ^ 63 - 1 := by decide
  rw [BitVec.toNat_and, h1, h2, Nat.and_two_pow_sub_one_eq_mod, IntKind.wrap_u64]
  omega
set_option maxRecDepth 100000 in
theorem abs_any (b : Nat) (w : World) (hb : b < 18446744073709551616) : Calls Tryd.prog 27 #[.float .f64 b] w fun e w' => e = .returned (.float .f64 (b % 9223372036854775808)) ∧ w' = w := by
  have hr := bits_run b w
  have hf := fun n => from_run n w
  have ha := andNot_top b hb
  go_enter Tryd.func27, Tryd.ntmps27
  go_wp2_with fail
  go_returns
  exact ⟨congrArg (fun n => Ending.returned (.float .f64 n)) (by omega), rfl⟩
/-- Whether bits without a sign are infinite. -/
def infB (b : Nat) : Bool := FloatKind.f64.format.order (b % 9223372036854775808) 9218868437227405311 == some .gt
set_option maxRecDepth 100000 in
theorem inf_any (b : Nat) (w : World) (hb : b < 18446744073709551616) : Calls Tryd.prog 11 #[.float .f64 b, .int .i64 0] w fun e w' => e = .returned (.bool (infB b)) ∧ w' = w := by
  have C27 := Lib.hid (fun w => abs_any b w hb)
  go_enter Tryd.func11, Tryd.ntmps11
  go_wp2_with (go_at_call 27; refine (C27.out _).mono ?_; rintro e w1 ⟨rfl, rfl⟩)
  go_returns
  exact ⟨rfl, rfl⟩
end Go.Proofs.YtnfddblpenninaaDoor
