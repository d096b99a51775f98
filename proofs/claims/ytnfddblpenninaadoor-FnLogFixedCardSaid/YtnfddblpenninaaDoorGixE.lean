/- A float's text through the logger: the walks. -/
import Derived.Test.YtnfddblpenninaaDoorGixC
namespace Go.Proofs.YtnfddblpenninaaDoor
open Go.RowKit

theorem FixEnd.same {w w0 : World} {b prec : Nat} {e : Ending} {w' : World} (h : FixEnd w b prec e w') (hb : Below w0.heap.size w0 w) : FixEnd w0 b prec e w' := by
  obtain ⟨v, l, D, h1, h2, h3, h4, h5⟩ := h
  exact ⟨v, l, D, h1, h2.lower hb.size, h3, h4, below_next hb h5⟩
set_option maxRecDepth 100000 in
theorem afloat_walk (b prec : Nat) (hb : b < 18446744073709551616) (hx : expF b ≤ 1092) (hp : prec ≤ 12) (w : World) (hG : Glob w) :
    Calls Tryd.prog 40 #[.slice none 0 0, .float .f64 b, .int .u8 102, .int .i64 (prec : Int), .int .i64 64] w (FixEnd w b prec) := by
  have C := Lib.hid (ftoa_walk b prec hb hx hp w hG)
  clear hG
  go_enter Tryd.func40, Tryd.ntmps40
  go_wp2_with (go_at_call 46; refine C.out.mono ?_; intro e1 w1 h1; obtain ⟨v, l, D, rfl, h2⟩ := h1; have H2 := Lib.hid h2; clear h2)
  go_returns
  exact ⟨v, l, D, rfl, H2.out⟩
set_option maxRecDepth 100000 in
theorem sfloat_walk (b prec : Nat) (hb : b < 18446744073709551616) (hx : expF b ≤ 1092) (hp : prec ≤ 12) (w : World) (hG : Glob w) :
    Calls Tryd.prog 35 #[.slice none 0 0, .float .f64 b, .int .u8 102, .int .i64 (prec : Int), .int .i64 64] w (FixEnd w b prec) := by
  have C := Lib.hid (afloat_walk b prec hb hx hp w hG)
  clear hG
  go_enter Tryd.func35, Tryd.ntmps35
  go_wp2_with (go_at_call 40; refine C.out.mono ?_; intro e1 w1 h1; obtain ⟨v, l, D, rfl, h2⟩ := h1; have H2 := Lib.hid h2; clear h2)
  go_returns
  exact ⟨v, l, D, rfl, H2.out⟩
/-- Bits with the other sign. -/
def negB (b : Nat) : Nat := b ^^^ 9223372036854775808
/-- Whether bits are infinite, either way. -/
def infP (b : Nat) : Bool := FloatKind.f64.format.order b 9218868437227405311 == some .gt
set_option maxRecDepth 100000 in
theorem infp_any (b : Nat) (w : World) : Calls Tryd.prog 11 #[.float .f64 b, .int .i64 1] w fun e w' => e = .returned (.bool (infP b)) ∧ w' = w := by
  go_enter Tryd.func11, Tryd.ntmps11
  go_wp2_with fail
  go_returns
  exact ⟨rfl, rfl⟩
theorem neg_run (b : Nat) (w : World) : Sem.run Tryd.prog (Op.unary UnOp.neg (Value.float FloatKind.f64 b)) w = .ok (.float .f64 (negB b)) w := rfl
set_option maxRecDepth 100000 in
theorem infm_any (b : Nat) (w : World) : Calls Tryd.prog 11 #[.float .f64 b, .int .i64 (-1)] w fun e w' => e = .returned (.bool (infP (negB b))) ∧ w' = w := by
  have hn := neg_run b w
  go_enter Tryd.func11, Tryd.ntmps11
  go_wp2_with fail
  go_returns
  exact ⟨rfl, rfl⟩
set_option maxRecDepth 100000 in
set_option maxHeartbeats 4000000 in
theorem jfloat_walk (b prec : Nat) (hb : b < 18446744073709551616) (hx : expF b ≤ 1092) (hp : prec ≤ 12) (hnan : (FloatKind.f64.format.order b b != some .eq) = false) (hi1 : infP b = false) (hi2 : infP (negB b) = false) (w : World) (hG : Glob w) :
    Calls Tryd.prog 30 #[.slice none 0 0, .float .f64 b, .int .i64 64, .int .i64 (prec : Int)] w (FixEnd w b prec) := by
  have C := Lib.hid (sfloat_walk b prec hb hx hp w hG)
  have C10 := Lib.hid (nan_any b w)
  have Cp := Lib.hid (infp_any b w)
  have Cm := Lib.hid (infm_any b w)
  rw [hnan] at C10
  rw [hi1] at Cp
  rw [hi2] at Cm
  clear hG hnan hi1 hi2
  go_enter Tryd.func30, Tryd.ntmps30
  go_wp2_with (first
    | (go_at_call 10; refine C10.out.mono ?_; rintro e1 w1 ⟨rfl, rfl⟩)
    | (go_at_call 11; (with_reducible refine Cp.out.mono ?_); rintro e1 w1 ⟨rfl, rfl⟩)
    | (go_at_call 11; (with_reducible refine Cm.out.mono ?_); rintro e1 w1 ⟨rfl, rfl⟩)
    | (go_at_call 35; refine C.out.mono ?_; intro e1 w1 h1; obtain ⟨v, l, D, rfl, h2⟩ := h1; have H2 := Lib.hid h2; clear h2))
  go_returns
  exact ⟨v, l, D, rfl, H2.out⟩
set_option maxRecDepth 100000 in
theorem efloat_walk (b prec : Nat) (hb : b < 18446744073709551616) (hx : expF b ≤ 1092) (hp : prec ≤ 12) (hnan : (FloatKind.f64.format.order b b != some .eq) = false) (hi1 : infP b = false) (hi2 : infP (negB b) = false) (v0 : Value) (w : World) (hG : Glob w) :
    Calls Tryd.prog 20 #[v0, .slice none 0 0, .float .f64 b, .int .i64 (prec : Int)] w (FixEnd w b prec) := by
  have HG := Lib.hid hG
  have HJ := Lib.hid (fun w1 (hb1 : Below w.heap.size w w1) => jfloat_walk b prec hb hx hp hnan hi1 hi2 w1 (hG.below hb1))
  clear hG hnan hi1 hi2
  go_enter Tryd.func20, Tryd.ntmps20
  go_wp2_with (go_at_call 30; refine (HJ.out _ ((Below.refl w.heap.size w).alloc (Nat.le_refl _) _)).mono ?_; intro e1 w1 h1; have h2 := h1.same ((Below.refl w.heap.size w).alloc (Nat.le_refl _) _); clear h1; obtain ⟨v, l, D, rfl, h3⟩ := h2; have H2 := Lib.hid h3; clear h3)
  go_returns
  exact ⟨v, l, D, rfl, H2.out⟩
/-- The text is handed back. -/
def StrEnd (w : World) (b prec : Nat) (e : Ending) (w' : World) : Prop :=
  ∃ (l : List UInt8) (D : Nat), e = .returned (.string ⟨(signed (decide (9223372036854775808 ≤ b)) l).toArray⟩) ∧ Good l prec D ∧ Right D prec (manF b) (powF b) ∧ Below w.heap.size w w'
set_option maxRecDepth 100000 in
theorem lfloat_walk (b prec : Nat) (hb : b < 18446744073709551616) (hx : expF b ≤ 1092) (hp : prec ≤ 12) (hnan : (FloatKind.f64.format.order b b != some .eq) = false) (hi1 : infP b = false) (hi2 : infP (negB b) = false) (w : World) (hG : Glob w) :
    Calls Tryd.prog 6 #[.float .f64 b, .int .i64 64, .int .i64 (prec : Int)] w (StrEnd w b prec) := by
  have HJ := Lib.hid (efloat_walk b prec hb hx hp hnan hi1 hi2 (.agg #[]) w hG)
  clear hG hnan hi1 hi2
  go_enter Tryd.func6, Tryd.ntmps6
  go_wp2_with (go_at_call 20; refine HJ.out.mono ?_; intro e1 w1 h1; obtain ⟨v, l, D, rfl, h3⟩ := h1; have hs := out_string h3.1; have H2 := Lib.hid h3; clear h3)
  go_returns
  exact ⟨l, D, rfl, H2.out.2⟩
#print axioms lfloat_walk
end Go.Proofs.YtnfddblpenninaaDoor
