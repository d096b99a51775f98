/- Unrounded numbers. -/
import Derived.Test.YtnfddblpenninaaDoorFixJ
namespace Go.Proofs.YtnfddblpenninaaDoor
open Go.RowKit

set_option maxRecDepth 100000 in
theorem unmin_any (x : Nat) (w : World) (_h : x < 4611686018427387904) (_h1 : 0 < x) : Calls Tryd.prog 85 #[.int .u64 (x : Int)] w fun e w' => e = .returned (.int .u64 ((4 * x - 2 : Nat) : Int)) ∧ w = w' := by
  go_enter Tryd.func85, Tryd.ntmps85
  go_wp2_with fail
  go_returns
  exact ⟨congrArg (fun n => Ending.returned (.int .u64 n)) (by omega), rfl⟩
set_option maxRecDepth 100000 in
theorem b2_any (b : Bool) (w : World) : Calls Tryd.prog 98 #[.bool b] w fun e w' => e = .returned (.int .u64 (if b then 1 else 0)) ∧ w' = w := by
  cases b
  all_goals
    go_enter Tryd.func98, Tryd.ntmps98
    go_wp2_with fail
    go_returns
    exact ⟨rfl, rfl⟩
set_option maxRecDepth 100000 in
theorem b3_any (b : Bool) (w : World) : Calls Tryd.prog 97 #[.bool b] w fun e w' => e = .returned (.int .u64 (if b then 1 else 0)) ∧ w' = w := by
  cases b
  all_goals
    go_enter Tryd.func97, Tryd.ntmps97
    go_wp2_with fail
    go_returns
    exact ⟨rfl, rfl⟩
set_option maxRecDepth 100000 in
theorem round_any (u : Nat) (w : World) (_h : u < 4611686018427387904) : Calls Tryd.prog 83 #[.int .u64 (u : Int)] w fun e w' => e = .returned (.int .u64 (((u + 1 + u / 4 % 2) / 4 : Nat) : Int)) ∧ w = w' := by
  have hb : bits .and .u64 ((u : Int) / 4) 1 = ((u / 4 % 2 : Nat) : Int) := by
    have := bits_and_u64_nat (u / 4) 1 (by omega) (by omega)
    rw [Nat.and_one_is_mod] at this
    exact this
  go_enter Tryd.func83, Tryd.ntmps83
  go_wp2_with fail
  go_returns
  exact ⟨congrArg (fun n => Ending.returned (.int .u64 n)) (by omega), rfl⟩
/-- An unrounded number divided. -/
def divU (u d : Nat) : Nat := u / d ||| u % 2 ||| (if u % d ≠ 0 then 1 else 0)
set_option maxRecDepth 100000 in
theorem div_any (u : Nat) (w : World) (_h : u < 18446744073709551616) : Calls Tryd.prog 86 #[.int .u64 (u : Int), .int .u64 10] w fun e w' => e = .returned (.int .u64 (divU u 10 : Int)) ∧ Below w.heap.size w w' := by
  have hl : ∀ a b : Nat, a < 18446744073709551616 → b < 18446744073709551616 → a ||| b < 18446744073709551616 := fun a b ha hb => Nat.or_lt_two_pow (n := 64) ha hb
  have h1 : u &&& 1 = u % 2 := Nat.and_one_is_mod u
  have ha : bits .and .u64 (u : Int) 1 = ((u % 2 : Nat) : Int) := by
    have := bits_and_u64_nat u 1 _h (by omega)
    rw [h1] at this
    exact this
  have ho : bits .or .u64 ((u : Int) / 10) ((u % 2 : Nat) : Int) = ((u / 10 ||| u % 2 : Nat) : Int) := bits_or_u64_nat (u / 10) _ (by omega) (by omega)
  have HA := Lib.hid (And.intro ha ho)
  have HL := Lib.hid hl
  clear ha ho hl h1
  by_cases h10 : u % 10 = 0
  · have hq : ((u : Int) % 10 != 0) = false := by simp; omega
    have H10 := Lib.hid h10
    clear h10
    go_enter Tryd.func86, Tryd.ntmps86
    go_wp2_with fail
    go_quiet ((go_at_call 98; exact Calls.quiet_of_same (b2_any _ _)))
    go_wp2_with fail
    go_returns
    refine ⟨congrArg (fun n => Ending.returned (.int .u64 n)) ?_, below_drewN (Below.refl _ _) _⟩
    rw [HA.out.1, HA.out.2]
    refine (bits_or_u64_nat (u / 10 ||| u % 2) 0 (HL.out _ _ (by omega) (by omega)) (by omega)).trans ?_
    rw [divU, if_neg (by have := H10.out; omega)]
  · have hq : ((u : Int) % 10 != 0) = true := by simp; omega
    have H10 := Lib.hid h10
    clear h10
    go_enter Tryd.func86, Tryd.ntmps86
    go_wp2_with fail
    go_quiet ((go_at_call 98; exact Calls.quiet_of_same (b2_any _ _)))
    go_wp2_with fail
    go_returns
    refine ⟨congrArg (fun n => Ending.returned (.int .u64 n)) ?_, below_drewN (Below.refl _ _) _⟩
    rw [HA.out.1, HA.out.2]
    refine (bits_or_u64_nat (u / 10 ||| u % 2) 1 (HL.out _ _ (by omega) (by omega)) (by omega)).trans ?_
    rw [divU, if_pos H10.out]
#print axioms div_any
end Go.Proofs.YtnfddblpenninaaDoor
