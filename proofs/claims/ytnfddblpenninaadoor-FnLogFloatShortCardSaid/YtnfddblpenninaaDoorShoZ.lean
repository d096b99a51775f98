/- A float is written with as few digits as may be: the law. -/
import Derived.Test.YtnfddblpenninaaDoorMgP
import Derived.Test.YtnfddblpenninaaDoorShoV
import Derived.Test.YtnfddblpenninaaDoorShoTs
import Derived.Test.YtnfddblpenninaaDoorMgK
namespace Go.Proofs.YtnfddblpenninaaDoor
open Go.RowKit

theorem SameVal.trans {D D' d : Nat} {E E' P : Int} (h : SameVal D' E' D E) (h2 : SameVal D E d P) : SameVal D' E' d P := by
  obtain ⟨a1, b1, e1, f1⟩ := h
  obtain ⟨a2, b2, e2, f2⟩ := h2
  refine ⟨a1 + a2, b1 + b2, by omega, ?_⟩
  rw [Nat.pow_add, ← Nat.mul_assoc, f1, Nat.mul_right_comm, f2, Nat.mul_assoc, Nat.mul_comm (10 ^ b2), ← Nat.pow_add]
theorem few_of_num {neg : Bool} {T : List UInt8} {M : Nat} {K least : Int} {top : Nat} (h : NumOf neg T M K least top) (b : Nat) (sh : Bool) (hN : M ≠ 0 → NearC neg b sh M K least top) (w : World) :
    Calls Tryd.prog 8 #[.string ⟨T.toArray⟩, .float .f64 b, .bool sh] w fun e w' => e = .returned (.bool true) ∧ Below w.heap.size w w' := by
  obtain ⟨D, E, h1, ⟨h2, h3, h4⟩, h5⟩ := h
  rcases h5 with ⟨_, hD⟩ | ⟨d, P, hm, _, h7, h8⟩
  · exact few_walk neg _ D E h1 h2 h3 h4 b sh M K least top (fun h => absurd hD h) (.inl hD) w
  · refine few_walk neg _ D E h1 h2 h3 h4 b sh M K least top (fun _ => hN hm) (.inr fun D' E' hV hD' C => few_not h7 D' E' (hV.trans h8) hD' C) w
theorem near64 (b : Nat) (hb : b < 18446744073709551616) (hx : expF b < 2047) (h0 : manF b ≠ 0) : NearC (decide (9223372036854775808 ≤ b)) b false (manF b) (powF b) (-1074) 4503599627370496 := fun s l sg xs hT E hE h1 h2 W => by
  have hp : -1074 ≤ powF b ∧ powF b ≤ 1000 ∧ (4503599627370496 ≤ manF b ∨ powF b = -1074) := by
    unfold powF manF
    split
    · exact ⟨by omega, by omega, .inr rfl⟩
    · exact ⟨by omega, by omega, .inl (by omega)⟩
  exact near_long _ s l sg xs hT E hE h1 h2 b hb hx rfl (manF b) 0 (powF b) (by simp) (by simp) (by omega) (man_lt b) hp.1 hp.2.1 hp.2.2 (by omega) W
theorem near32 (u : Nat) (hx : expS u < 255) (h0 : manS u ≠ 0) : NearC (decide (2147483648 ≤ u)) (wid u) true (manS u) (powS u) (-149) 8388608 := fun s l sg xs hT E hE h1 h2 W => by
  obtain ⟨g1, g2, g3, _, g5⟩ := wid_parts u hx
  obtain ⟨g6, g7⟩ := g5 h0
  obtain ⟨p1, p2⟩ := powS_bounds u hx
  exact near_short _ s l sg xs hT E hE h1 h2 (wid u) g1 g2 g3.symm (manS u) (upS u) (powS u) g6 g7 (by omega) (manS_lt u) p1 (by omega) (normS u) (by unfold upS; omega) W
/-- What is not a number. -/
theorem order_nan (r : Nat) (hr : r < 18446744073709551616) (h1 : expF r = 2047) (h2 : fracF r ≠ 0) : (FloatKind.f64.format.order r 0 != some .eq) = true := by
  rcases read_big r hr h1 with ⟨_, h⟩ | ⟨f, h⟩
  · exfalso
    unfold fracF at h2
    omega
  · rw [order_eq, h]
    rfl
theorem cut_nan (t : Nat) (q : Question) (hq : q.cut t = (t % 2) * 2 ^ 63 + 0x7ff0000000000000 + 1 + (t / 2) % (2 ^ 52 - 1)) : q.cut t < 18446744073709551616 ∧ expF (q.cut t) = 2047 ∧ fracF (q.cut t) ≠ 0 := by
  rw [hq]
  obtain ⟨x, hx⟩ : ∃ x, x = (t / 2) % (2 ^ 52 - 1) := ⟨_, rfl⟩
  have hx1 : x < 4503599627370495 := by
    rw [hx]
    exact Nat.mod_lt _ (by decide)
  rw [← hx]
  unfold expF fracF
  rcases (show t % 2 = 0 ∨ t % 2 = 1 by omega) with h | h
  · rw [h]
    omega
  · rw [h]
    omega
theorem sub_fin (b : Nat) (hb : b < 18446744073709551616) (hx : expF b < 2047) : floatBits .sub .f64 b b = some 0 := by
  show FloatKind.f64.format.sub b b = some 0
  unfold Ieee.Format.sub
  rw [read_fin b hb hx]
  have h1 : ∀ s : Bool, (Ieee.Datum.number s (manF b) (powF b)).sum (Ieee.Datum.number s (manF b) (powF b)).opposite = some (.number false 0 (powF b)) := fun s => by
    unfold Ieee.Datum.opposite Ieee.Datum.sum
    simp only [Int.min_self, Int.sub_self]
    have e : Ieee.signed s (manF b) (Int.toNat 0) + Ieee.signed (!s) (manF b) (Int.toNat 0) = 0 := by
      unfold Ieee.signed
      cases s <;> simp <;> omega
    rw [e]
    cases s <;> rfl
  rw [h1]
  rfl
/-- A float less itself, where it is no number. -/
theorem sub_big (b : Nat) (hb : b < 18446744073709551616) (hx : expF b = 2047) (W : World) : ∃ r, (FloatKind.f64.format.order r 0 != some .eq) = true ∧ ∀ t, (binOp .sub t (.float .f64 b) (.float .f64 b)).run Tryd.prog W = .ok (.float .f64 r) W.drew := by
  have hs : FloatKind.f64.format.sub b b = none := by
    unfold Ieee.Format.sub
    rcases read_big b hb hx with ⟨h, _⟩ | ⟨f, h⟩
    · rw [h]
      cases decide (9223372036854775808 ≤ b) <;> rfl
    · rw [h]
      rfl
  obtain ⟨g1, g2, g3⟩ := cut_nan (W.tape W.drawn (.nanBits .f64 b b)) (.nanBits .f64 b b) rfl
  refine ⟨(Question.nanBits .f64 b b).cut (W.tape W.drawn (.nanBits .f64 b b)), order_nan _ g1 g2 g3, fun t => ?_⟩
  simp [binOp, Op.floatArith, hs]
  intro h
  exact absurd (show false = true from h) (by decide)
/-- A conversion to 32 bits, whatever comes of it. -/
theorem nar_any (b : Nat) (W : World) : ∃ (u : Nat) (W1 : World), u < 4294967296 ∧ (W1 = W ∨ W1 = W.drew) ∧ (convert 22 27 (.float .f64 b)).run Tryd.prog W = .ok (.float .f32 u) W1 := by
  have hs : (Tryd.prog.underlying 22).isSome = true := by rw [Tryd.underlying22]; rfl
  have c32 : ∀ (q : Question) (t : Nat), q.cut t = (t % 2) * 2 ^ 31 + 0x7f800000 + 1 + (t / 2) % (2 ^ 23 - 1) → q.cut t < 4294967296 := fun q t h => by
    rw [h]
    have : (t / 2) % (2 ^ 23 - 1) < 2 ^ 23 - 1 := Nat.mod_lt _ (by decide)
    omega
  cases hd : FloatKind.f64.decode b with
  | nan s f =>
    refine ⟨(Question.nanConv .f32 b).cut (W.tape W.drawn (.nanConv .f32 b)), W.drew, c32 _ _ rfl, .inr rfl, ?_⟩
    simp [convert, run_underlying Tryd.underlying22, run_underlying Tryd.underlying27, Conv.floatToFloat, hd]
    intro h
    exact absurd (show false = true from h) (by decide)
  | infinity s =>
    refine ⟨_, W, FloatKind.f32.format.write_lt (.infinity s), .inl rfl, ?_⟩
    exact run_convert_float_float W 22 27 .f64 .f32 b _ hs Tryd.underlying27 (by unfold floatToFloatBits; rw [if_neg (by decide), hd]; rfl)
  | number s m e =>
    cases hi : (FloatKind.f32.decode (FloatKind.f32.encode (.number s m e))).isInfinity with
    | false =>
      refine ⟨_, W, FloatKind.f32.format.write_lt (.number s m e), .inl rfl, ?_⟩
      exact run_convert_float_float W 22 27 .f64 .f32 b _ hs Tryd.underlying27 (by unfold floatToFloatBits; rw [if_neg (by decide), hd]; simp only [hi]; rfl)
    | true =>
      refine ⟨(Question.floatToFloat b).cut (W.tape W.drawn (.floatToFloat b)), W.drew, Nat.mod_lt _ (by decide), .inr rfl, ?_⟩
      simp [convert, run_underlying Tryd.underlying22, run_underlying Tryd.underlying27, Conv.floatToFloat, hd, hi]
      intro h
      exact absurd (show false = true from h) (by decide)
/-- A conversion to 64 bits of what is no number. -/
theorem wid_any (u : Nat) (hu : u < 4294967296) (hx : expS u = 255) (W : World) : ∃ (x : Nat) (W1 : World), x < 18446744073709551616 ∧ expF x = 2047 ∧ (W1 = W ∨ W1 = W.drew) ∧ (convert 27 22 (.float .f32 u)).run Tryd.prog W = .ok (.float .f64 x) W1 := by
  have hs : (Tryd.prog.underlying 27).isSome = true := by rw [Tryd.underlying27]; rfl
  rcases readS_big u hu hx with h | ⟨f, h⟩
  · have hd : FloatKind.f32.decode u = .infinity (decide (2147483648 ≤ u)) := h
    refine ⟨FloatKind.f64.encode (.infinity (decide (2147483648 ≤ u))), W, FloatKind.f64.format.write_lt _, ?_, .inl rfl, ?_⟩
    · cases decide (2147483648 ≤ u) <;> decide
    · exact run_convert_float_float W 27 22 .f32 .f64 u _ hs Tryd.underlying22 (by unfold floatToFloatBits; rw [if_neg (by decide), hd])
  · have hd : FloatKind.f32.decode u = .nan (decide (2147483648 ≤ u)) f := h
    obtain ⟨g1, g2, g3⟩ := cut_nan (W.tape W.drawn (.nanConv .f64 u)) (.nanConv .f64 u) rfl
    refine ⟨(Question.nanConv .f64 u).cut (W.tape W.drawn (.nanConv .f64 u)), W.drew, g1, g2, .inr rfl, ?_⟩
    simp [convert, run_underlying Tryd.underlying22, run_underlying Tryd.underlying27, Conv.floatToFloat, hd]
    intro h
    exact absurd (show false = true from h) (by decide)
theorem below_or {W W1 w : World} (h : Below w.heap.size w W) (h1 : W1 = W ∨ W1 = W.drew) : Below w.heap.size w W1 := by
  rcases h1 with rfl | rfl
  · exact h
  · exact below_drewN h 1
set_option maxRecDepth 100000 in
set_option maxHeartbeats 4000000 in
theorem short_law (b : Nat) (sh : Bool) (hb : b < 18446744073709551616) (w : World) (hG : Glob w) (hE : Errs w) :
    Calls Tryd.prog 4 #[.float .f64 b, .bool sh] w fun e w' => e = .returned (.bool true) ∧ Below w.heap.size w w' := by
  have HE := Lib.hid hE
  have HG := Lib.hid hG
  have hx : expF b < 2048 := by unfold expF; omega
  cases sh
  · rcases Nat.lt_or_ge (expF b) 2047 with hf | hf
    · have hsub := fun t W => run_float_arith (P := Tryd.prog) W .sub t .f64 b b 0 (sub_fin b hb hf)
      have hz : (FloatKind.f64.format.order 0 0 != some .eq) = false := order_zero 0 (by decide) (by decide) (by decide)
      have C6 := Lib.hid (lshort64 b hb hf w hG)
      have hN := fun (T : List UInt8) (hT : NumOf (decide (9223372036854775808 ≤ b)) T (manF b) (powF b) (-1074) 4503599627370496) (W : World) => few_of_num hT b false (fun h0 => near64 b hb hf h0) W
      have HN := Lib.hid hN
      clear hG hE hN hb hf hx
      go_enter Tryd.func4, Tryd.ntmps4
      go_wp2_with (first
        | (go_at_call 6; refine C6.out.mono ?_; rintro e1 w1 ⟨T, rfl, h2, h3⟩; have H2 := Lib.hid (And.intro h2 h3); clear h2 h3)
        | (go_at_call 8; refine (HN.out T H2.out.1 _).mono ?_; rintro e2 w2 ⟨rfl, h5⟩; have H5 := Lib.hid h5; clear h5)
        | (go_at_call 7; refine (awake_any w _ (below_next H2.out.2 H5.out) HE.out).mono ?_; rintro e3 w3 ⟨rfl, h6⟩; have H6 := Lib.hid h6; clear h6))
      go_returns
      exact ⟨rfl, H6.out⟩
    · obtain ⟨r, hr, hsub⟩ := sub_big b hb (by omega) w
      clear hG hE hb hf hx
      go_enter Tryd.func4, Tryd.ntmps4
      go_wp2_with fail
      go_returns
      exact ⟨rfl, below_drewN (Below.refl _ _) 1⟩
  · obtain ⟨u, W1, hu, hW1, hnar⟩ := nar_any b w
    have hB1 := below_or (Below.refl w.heap.size w) hW1
    have hxu : expS u < 256 := by unfold expS; omega
    rcases Nat.lt_or_ge (expS u) 255 with hf | hf
    · have hwid := wid_conv u hu hf W1
      obtain ⟨p1, p2, p3, p4, p5⟩ := wid_parts u hf
      have hsub := fun t W => run_float_arith (P := Tryd.prog) W .sub t .f64 (wid u) (wid u) 0 (sub_fin (wid u) p1 p2)
      have hz : (FloatKind.f64.format.order 0 0 != some .eq) = false := order_zero 0 (by decide) (by decide) (by decide)
      have C6 := Lib.hid (lshort32 u hu hf W1 (hG.below hB1))
      have hN := fun (T : List UInt8) (hT : NumOf (decide (2147483648 ≤ u)) T (manS u) (powS u) (-149) 8388608) (W : World) => few_of_num hT (wid u) true (fun h0 => near32 u hf h0) W
      obtain ⟨x, hx⟩ : ∃ x, x = wid u := ⟨_, rfl⟩
      rw [← hx] at C6 hN hwid hsub
      have HN := Lib.hid hN
      have HB1 := Lib.hid hB1
      clear hG hE hN hb hf hx hB1 hW1 p1 p2 p3 p4 p5
      go_enter Tryd.func4, Tryd.ntmps4
      go_wp2_with (first
        | (go_at_call 6; refine C6.out.mono ?_; rintro e1 w1 ⟨T, rfl, h2, h3⟩; have H2 := Lib.hid (And.intro h2 (below_next HB1.out h3)); clear h2 h3)
        | (go_at_call 8; refine (HN.out T H2.out.1 _).mono ?_; rintro e2 w2 ⟨rfl, h5⟩; have H5 := Lib.hid h5; clear h5)
        | (go_at_call 7; refine (awake_any w _ (below_next H2.out.2 H5.out) HE.out).mono ?_; rintro e3 w3 ⟨rfl, h6⟩; have H6 := Lib.hid h6; clear h6))
      go_returns
      exact ⟨rfl, H6.out⟩
    · obtain ⟨x, W2, hx1, hx2, hW2, hwid⟩ := wid_any u hu (by omega) W1
      obtain ⟨r, hr, hsub⟩ := sub_big x hx1 hx2 W2
      have HB2 := Lib.hid (below_or hB1 hW2)
      clear hG hE hb hf hx hB1 hW1 hW2 hx1 hx2
      go_enter Tryd.func4, Tryd.ntmps4
      go_wp2_with fail
      go_returns
      exact ⟨rfl, below_drewN HB2.out 1⟩
#print axioms short_law
end Go.Proofs.YtnfddblpenninaaDoor
