/- The law. -/
import Derived.Test.YtpenbgiobeebiaaGreatDoorPasK
import Derived.Test.YtpenbgiobeebiaaGreatDoorLevC
namespace Go.Proofs.YtpenbgiobeebiaaGreatDoor
open Go.RowKit

theorem below_lower {B C : Nat} {w w' : World} (h : Below B w w') (hc : C ≤ B) : Below C w w' := ⟨h.os, h.tape, h.output, h.size, fun i hi => h.block i (Nat.lt_of_lt_of_le hi hc)⟩
set_option maxRecDepth 100000 in
theorem lam_any (x d : Int) (_hx1 : -1 ≤ x) (_hx2 : x ≤ 6) (_hd1 : 0 ≤ d) (_hd2 : d ≤ 255) (w : World) :
    Calls Tryz.prog 6 #[.int .i64 x, .int .u8 d] w fun e w' => e = .returned (.int .i64 (max (-1) (x - d % 8))) ∧ w = w' := by
  go_enter Tryz.func6, Tryz.ntmps6
  go_wp2_with fail
  go_returns
  exact ⟨rfl, rfl⟩
set_option maxRecDepth 100000 in
theorem law_walk (a b c d f : Int) (_ha1 : 0 ≤ a) (_ha2 : a ≤ 255) (_hb1 : 0 ≤ b) (_hb2 : b ≤ 255) (_hc1 : 0 ≤ c) (_hc2 : c ≤ 255) (_hd1 : 0 ≤ d) (_hd2 : d ≤ 255) (_hf1 : 0 ≤ f) (_hf2 : f ≤ 255) (w : World) (hE : Errs w) :
    Calls Tryz.prog 3 #[.int .u8 a, .int .u8 b, .int .u8 c, .int .u8 d, .int .u8 f] w fun e w' => e = .returned (.bool true) ∧ Below w.heap.size w w' := by
  have HE := Lib.hid hE
  clear hE
  by_cases hp : a % 8 - 1 ≤ c % 8 - 1 ∧ b % 8 - 1 ≤ c % 8 - 1
  · have c4 := (pass_walk (a % 8 - 1) (b % 8 - 1) (c % 8 - 1) (by omega) (by omega) (by omega) (by omega) (by omega) (by omega) w)
    rw [decide_eq_true hp] at c4
    have c4b : ∀ W, _ := fun W => pass_walk (max (-1) (a % 8 - 1 - d % 8)) (max (-1) (b % 8 - 1 - f % 8)) (min 6 (c % 8 - 1 + d % 8)) (by omega) (by omega) (by omega) (by omega) (by omega) (by omega) W
    have hq : max (-1) (a % 8 - 1 - d % 8) ≤ min 6 (c % 8 - 1 + d % 8) ∧ max (-1) (b % 8 - 1 - f % 8) ≤ min 6 (c % 8 - 1 + d % 8) := by omega
    rw [decide_eq_true hq] at c4b
    have CC := Lib.hid (And.intro c4 c4b)
    clear hp hq c4 c4b
    go_enter Tryz.func3, Tryz.ntmps3
    go_wp2_with ((go_at_call 4; refine CC.out.1.mono ?_; rintro e w1 ⟨rfl, hb1⟩; have H1 := Lib.hid hb1; clear hb1))
    go_wp2_with (first
      | (go_at_call 6; refine (lam_any _ _ (by omega) (by omega) (by omega) (by omega) _).mono ?_; rintro e w2 ⟨rfl, rfl⟩)
      | (go_at_call 4; refine (CC.out.2 _).mono ?_; rintro e w3 ⟨rfl, hb3⟩; have H3 := Lib.hid hb3; clear hb3))
    have h3 : Below w.heap.size w w3 := H1.out.trans (below_lower H3.out H1.out.size)
    go_wp2_with ((go_at_call 5; refine (awake_any w w3 h3 HE.out).mono ?_; rintro e w4 ⟨rfl, hb4⟩; have H4 := Lib.hid hb4; clear hb4))
    go_returns
    exact ⟨rfl, H4.out⟩
  · have c4 := (pass_walk (a % 8 - 1) (b % 8 - 1) (c % 8 - 1) (by omega) (by omega) (by omega) (by omega) (by omega) (by omega) w)
    rw [decide_eq_false hp] at c4
    have CC := Lib.hid c4
    clear hp c4
    go_enter Tryz.func3, Tryz.ntmps3
    go_wp2_with (first
      | (go_at_call 4; refine CC.out.mono ?_; rintro e w1 ⟨rfl, hb1⟩; have H1 := Lib.hid hb1; clear hb1)
      | (go_at_call 5; refine (awake_any w w1 H1.out HE.out).mono ?_; rintro e w4 ⟨rfl, hb4⟩; have H4 := Lib.hid hb4; clear hb4))
    go_returns
    exact ⟨rfl, H4.out⟩
#print axioms law_walk
end Go.Proofs.YtpenbgiobeebiaaGreatDoor
