/- Floats: sign, not a number. -/
import Derived.Test.YtnfddblpenninaaDoorFixI
import Derived.WalkLawsBesides
namespace Go.Proofs.YtnfddblpenninaaDoor
open Go.RowKit

theorem bits_run (b : Nat) (w : World) : Sem.run Tryd.prog (callFunc 13 #[.float .f64 b]) w = .ok (.value (.int .u64 (b : Int))) w := by
  kernel_rfl
set_option maxRecDepth 100000 in
theorem nan_any (b : Nat) (w : World) : Calls Tryd.prog 10 #[.float .f64 b] w fun e w' => e = .returned (.bool (FloatKind.f64.format.order b b != some .eq)) ∧ w = w' := by
  go_enter Tryd.func10, Tryd.ntmps10
  go_wp2_with fail
  go_returns
  exact ⟨rfl, rfl⟩
set_option maxRecDepth 100000 in
theorem sign_any (b : Nat) (w : World) (_hb : b < 18446744073709551616) : Calls Tryd.prog 12 #[.float .f64 b] w fun e w' => e = .returned (.bool (decide (9223372036854775808 ≤ b))) ∧ w = w' := by
  have hr := bits_run b w
  go_enter Tryd.func12, Tryd.ntmps12
  go_wp2_with fail
  go_returns
  refine ⟨congrArg (fun b => Ending.returned (.bool b)) ?_, rfl⟩
  rw [decide_eq_decide]
  unfold wrap64
  omega
theorem sbits_run (b : Nat) (w : World) : Sem.run Tryd.prog (callFunc 54 #[.float .f64 b]) w = .ok (.value (.int .u64 (b : Int))) w := by
  kernel_rfl
theorem from_run (n : Int) (w : World) : Sem.run Tryd.prog (callFunc 34 #[.int .u64 n]) w = .ok (.value (.float .f64 n.toNat)) w := by
  kernel_rfl
end Go.Proofs.YtnfddblpenninaaDoor
/- Unrounded numbers. -/
namespace Go.Proofs.YtnfddblpenninaaDoor
open Go.RowKit

set_option maxRecDepth 100000 in
theorem unmin_any (x : Nat) (w : World) (_h : x < 4611686018427387904) (_h1 : 0 < x) : Calls Tryd.prog 85 #[.int .u64 (x : Int)] w fun e w' => e = .returned (.int .u64 ((4 * x - 2 : Nat) : Int)) ∧ w = w' := by
  go_enter Tryd.func85, Tryd.ntmps85
  go_wp2_with fail
  go_returns
  exact ⟨congrArg (fun n => Ending.returned (.int .u64 n)) (by omega), rfl⟩
set_option maxRecDepth 100000 in
theorem b2_any (b : Bool) (w : World) : Calls Tryd.prog 98 #[.bool b] w fun e w' => e = .returned (.int .u64 (if b then 1 else 0)) ∧ w' = w := by
  cases b
  all_goals
    go_enter Tryd.func98, Tryd.ntmps98
    go_wp2_with fail
    go_returns
    exact ⟨rfl, rfl⟩
set_option maxRecDepth 100000 in
theorem b3_any (b : Bool) (w : World) : Calls Tryd.prog 97 #[.bool b] w fun e w' => e = .returned (.int .u64 (if b then 1 else 0)) ∧ w' = w := by
  cases b
  all_goals
    go_enter Tryd.func97, Tryd.ntmps97
    go_wp2_with fail
    go_returns
    exact ⟨rfl, rfl⟩
set_option maxRecDepth 100000 in
theorem round_any (u : Nat) (w : World) (_h : u < 4611686018427387904) : Calls Tryd.prog 83 #[.int .u64 (u : Int)] w fun e w' => e = .returned (.int .u64 (((u + 1 + u / 4 % 2) / 4 : Nat) : Int)) ∧ w = w' := by
  have hb : bits .and .u64 ((u : Int) / 4) 1 = ((u / 4 % 2 : Nat) : Int) := by
    have := bits_and_u64_nat (u / 4) 1 (by omega) (by omega)
    rw [Nat.and_one_is_mod] at this
    exact this
  go_enter Tryd.func83, Tryd.ntmps83
  go_wp2_with fail
  go_returns
  exact ⟨congrArg (fun n => Ending.returned (.int .u64 n)) (by omega), rfl⟩
/-- An unrounded number divided. -/
def divU (u d : Nat) : Nat := u / d ||| u % 2 ||| (if u % d ≠ 0 then 1 else 0)
set_option maxRecDepth 100000 in
theorem div_any (u : Nat) (w : World) (_h : u < 18446744073709551616) : Calls Tryd.prog 86 #[.int .u64 (u : Int), .int .u64 10] w fun e w' => e = .returned (.int .u64 (divU u 10 : Int)) ∧ Below w.heap.size w w' := by
  have hl : ∀ a b : Nat, a < 18446744073709551616 → b < 18446744073709551616 → a ||| b < 18446744073709551616 := fun a b ha hb => Nat.or_lt_two_pow (n := 64) ha hb
  have h1 : u &&& 1 = u % 2 := Nat.and_one_is_mod u
  have ha : bits .and .u64 (u : Int) 1 = ((u % 2 : Nat) : Int) := by
    have := bits_and_u64_nat u 1 _h (by omega)
    rw [h1] at this
    exact this
  have ho : bits .or .u64 ((u : Int) / 10) ((u % 2 : Nat) : Int) = ((u / 10 ||| u % 2 : Nat) : Int) := bits_or_u64_nat (u / 10) _ (by omega) (by omega)
  have HA := Lib.hid (And.intro ha ho)
  have HL := Lib.hid hl
  clear ha ho hl h1
  by_cases h10 : u % 10 = 0
  · have hq : ((u : Int) % 10 != 0) = false := by simp; omega
    have H10 := Lib.hid h10
    clear h10
    go_enter Tryd.func86, Tryd.ntmps86
    go_wp2_with fail
    go_quiet ((go_at_call 98; exact Calls.quiet_of_same (b2_any _ _)))
    go_wp2_with fail
    go_returns
    refine ⟨congrArg (fun n => Ending.returned (.int .u64 n)) ?_, below_drewN (Below.refl _ _) _⟩
    rw [HA.out.1, HA.out.2]
    refine (bits_or_u64_nat (u / 10 ||| u % 2) 0 (HL.out _ _ (by omega) (by omega)) (by omega)).trans ?_
    rw [divU, if_neg (by have := H10.out; omega)]
  · have hq : ((u : Int) % 10 != 0) = true := by simp; omega
    have H10 := Lib.hid h10
    clear h10
    go_enter Tryd.func86, Tryd.ntmps86
    go_wp2_with fail
    go_quiet ((go_at_call 98; exact Calls.quiet_of_same (b2_any _ _)))
    go_wp2_with fail
    go_returns
    refine ⟨congrArg (fun n => Ending.returned (.int .u64 n)) ?_, below_drewN (Below.refl _ _) _⟩
    rw [HA.out.1, HA.out.2]
    refine (bits_or_u64_nat (u / 10 ||| u % 2) 1 (HL.out _ _ (by omega) (by omega)) (by omega)).trans ?_
    rw [divU, if_pos H10.out]
#print axioms div_any
end Go.Proofs.YtnfddblpenninaaDoor
/- A float's absolute value; whether it is infinite. -/
namespace Go.Proofs.YtnfddblpenninaaDoor
open Go.RowKit

theorem andNot_top (b : Nat) (hb : b < 18446744073709551616) : bits .andNot .u64 (b : Int) 9223372036854775808 = ((b % 9223372036854775808 : Nat) : Int) := by
  show IntKind.u64.wrap ((BitVec.ofInt 64 (b : Int) &&& ~~~BitVec.ofInt 64 9223372036854775808).toNat : Int) = _
  have h1 : (BitVec.ofInt 64 (b : Int)).toNat = b := by
    rw [BitVec.ofInt_natCast, BitVec.toNat_ofNat]
    exact Nat.mod_eq_of_lt (by omega)
  have h2 : (~~~BitVec.ofInt 64 9223372036854775808).toNat = 2 ^ 63 - 1 := by decide
  rw [BitVec.toNat_and, h1, h2, Nat.and_two_pow_sub_one_eq_mod, IntKind.wrap_u64]
  omega
set_option maxRecDepth 100000 in
theorem abs_any (b : Nat) (w : World) (hb : b < 18446744073709551616) : Calls Tryd.prog 27 #[.float .f64 b] w fun e w' => e = .returned (.float .f64 (b % 9223372036854775808)) ∧ w' = w := by
  have hr := bits_run b w
  have hf := fun n => from_run n w
  have ha := andNot_top b hb
  go_enter Tryd.func27, Tryd.ntmps27
  go_wp2_with fail
  go_returns
  exact ⟨congrArg (fun n => Ending.returned (.float .f64 n)) (by omega), rfl⟩
/-- Whether bits without a sign are infinite. -/
def infB (b : Nat) : Bool := FloatKind.f64.format.order (b % 9223372036854775808) 9218868437227405311 == some .gt
set_option maxRecDepth 100000 in
theorem inf_any (b : Nat) (w : World) (hb : b < 18446744073709551616) : Calls Tryd.prog 11 #[.float .f64 b, .int .i64 0] w fun e w' => e = .returned (.bool (infB b)) ∧ w' = w := by
  have C27 := Lib.hid (fun w => abs_any b w hb)
  go_enter Tryd.func11, Tryd.ntmps11
  go_wp2_with (go_at_call 27; refine (C27.out _).mono ?_; rintro e w1 ⟨rfl, rfl⟩)
  go_returns
  exact ⟨rfl, rfl⟩
end Go.Proofs.YtnfddblpenninaaDoor
