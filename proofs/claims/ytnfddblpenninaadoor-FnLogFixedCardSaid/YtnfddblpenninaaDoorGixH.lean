/- A float with a precision is written with so many digits behind the point: the law. -/
import Derived.Test.YtnfddblpenninaaDoorGixG
namespace Go.Proofs.YtnfddblpenninaaDoor
open Go.RowKit

theorem fix_call (b n : Nat) (l : List UInt8) (D : Nat) (w : World) (hb : b < 18446744073709551616) (hx : expF b ≤ 1092) (hn : n ≤ 12) (hnan : (FloatKind.f64.format.order b b != some .eq) = false) (_hs : b = b) (hg : Good l n D) (hR : Right D n (manF b) (powF b)) :
    Calls Tryd.prog 5 #[.string ⟨(signed (decide (9223372036854775808 ≤ b)) l).toArray⟩, .float .f64 b, .int .i64 (n : Int)] w fun e w' => e = .returned (.bool true) ∧ Below w.heap.size w w' := by
  obtain ⟨c0, l', hl⟩ : ∃ c0 l', l = c0 :: l' := by
    cases l with
    | nil => have := hg.cnt; simp [cntD] at this
    | cons c r => exact ⟨c, r, rfl⟩
  exact fixed_walk _ _ l rfl hg.plain hg.len hg.cnt c0 l' hl n b hg.beh hn hg.dot hb hnan (infP_fin (b % 9223372036854775808) (by omega) (by rw [exp_mod b hb]; omega)) rfl (by rw [hg.num]; exact hR) w
theorem order_mod (b : Nat) (hb : b < 18446744073709551616) (hnan : (FloatKind.f64.format.order b b != some .eq) = false) : (FloatKind.f64.format.order (b % 9223372036854775808) (b % 9223372036854775808) != some .eq) = false := by
  have hx : expF b < 2048 := by unfold expF; omega
  rcases Nat.lt_or_ge (expF b) 2047 with hf | hf
  · exact order_self_fin _ (by omega) (by rw [exp_mod b hb]; exact hf)
  · rcases read_big b hb (by omega) with ⟨_, hr⟩ | ⟨f, hr⟩
    · rw [hr]
      rfl
    · rw [order_eq, hr] at hnan
      simp [Ieee.Datum.order] at hnan
set_option maxRecDepth 100000 in
set_option maxHeartbeats 4000000 in
theorem fixed_law (b d : Nat) (hb : b < 18446744073709551616) (hd : d < 256) (w : World) (hG : Glob w) (hE : Errs w) :
    Calls Tryd.prog 3 #[.float .f64 b, .int .u8 (d : Int)] w fun e w' => e = .returned (.bool true) ∧ Below w.heap.size w w' := by
  obtain ⟨n, hn⟩ : ∃ n, n = d % 13 := ⟨_, rfl⟩
  have hn12 : n ≤ 12 := by omega
  have hcast : (d : Int) % 13 = (n : Int) := by omega
  have hneg := fun W => neg_run b W
  clear hn
  cases hnan : (FloatKind.f64.format.order b b != some .eq)
  · have hmax := fun ts t W => max_run b hb hnan ts t W
    have hHr := order_mod b hb hnan
    obtain ⟨r, hr⟩ : ∃ r, r = b % 9223372036854775808 := ⟨_, rfl⟩
    rw [← hr] at hmax hHr
    have hrl : r < 9223372036854775808 := by omega
    have hxr : expF r = expF b := by rw [hr]; exact exp_mod b hb
    clear hr
    rcases Nat.lt_or_ge 1092 (expF b) with hx | hx
    · obtain ⟨g1, g2⟩ := too_great r hrl (by omega) hHr
      clear hxr hx hG hE hHr
      cases hz : (FloatKind.f64.format.order r 4517329193108106637 == some .gt || FloatKind.f64.format.order r 4517329193108106637 == some .eq)
      all_goals
        go_enter Tryd.func3, Tryd.ntmps3
        go_wp2_with fail
        go_returns
        exact ⟨rfl, Below.refl _ _⟩
    · have H1092 := Lib.hid hx
      have C6 := Lib.hid (lfloat_walk b n hb hx hn12 hnan (infP_fin b hb (by omega)) (infP_fin (negB b) (exp_neg b hb).2 (by rw [(exp_neg b hb).1]; omega)) w hG)
      have HE := Lib.hid hE
      have hsg : b = b := rfl
      have HS := Lib.hid hsg
      clear hG hE hHr hxr hx hsg
      have hsg := HS.out
      cases hz1 : (FloatKind.f64.format.order r 0 != some .eq)
      · go_enter Tryd.func3, Tryd.ntmps3
        go_wp2_with (first
          | (go_at_call 6; refine C6.out.mono ?_; intro e1 w1 h1; obtain ⟨l, D, rfl, h2, h3, h4⟩ := h1; have H2 := Lib.hid (And.intro h2 (And.intro h3 h4)); clear h2 h3 h4; have C5 := Lib.hid (fix_call b n l D w1 hb H1092.out hn12 hnan hsg H2.out.1 H2.out.2.1))
          | (go_at_call 5; refine C5.out.mono ?_; rintro e1 w2 ⟨rfl, h5⟩; have H5 := Lib.hid h5; clear h5)
          | (go_at_call 7; refine (awake_any w _ (below_next H2.out.2.2 H5.out) HE.out).mono ?_; rintro e1 w3 ⟨rfl, h6⟩; have H6 := Lib.hid h6; clear h6))
        go_returns
        exact ⟨rfl, H6.out⟩
      · cases hz2 : (FloatKind.f64.format.order r 4517329193108106637 == some .gt || FloatKind.f64.format.order r 4517329193108106637 == some .eq)
        · go_enter Tryd.func3, Tryd.ntmps3
          go_wp2_with fail
          go_returns
          exact ⟨rfl, Below.refl _ _⟩
        · cases hz3 : (FloatKind.f64.format.order r 4921056587992461136 == some .lt)
          · go_enter Tryd.func3, Tryd.ntmps3
            go_wp2_with fail
            go_returns
            exact ⟨rfl, Below.refl _ _⟩
          · go_enter Tryd.func3, Tryd.ntmps3
            go_wp2_with (first
              | (go_at_call 6; refine C6.out.mono ?_; intro e1 w1 h1; obtain ⟨l, D, rfl, h2, h3, h4⟩ := h1; have H2 := Lib.hid (And.intro h2 (And.intro h3 h4)); clear h2 h3 h4; have C5 := Lib.hid (fix_call b n l D w1 hb H1092.out hn12 hnan hsg H2.out.1 H2.out.2.1))
              | (go_at_call 5; refine C5.out.mono ?_; rintro e1 w2 ⟨rfl, h5⟩; have H5 := Lib.hid h5; clear h5)
              | (go_at_call 7; refine (awake_any w _ (below_next H2.out.2.2 H5.out) HE.out).mono ?_; rintro e1 w3 ⟨rfl, h6⟩; have H6 := Lib.hid h6; clear h6))
            go_returns
            exact ⟨rfl, H6.out⟩
  · obtain ⟨c, hmax⟩ := max_run_nan b hb hnan w
    clear hG hE
    go_enter Tryd.func3, Tryd.ntmps3
    go_wp2_with fail
    go_returns
    exact ⟨rfl, below_drewN (Below.refl _ _) 1⟩
#print axioms fixed_law
end Go.Proofs.YtnfddblpenninaaDoor
