/- A float's text through the logger: the walks. -/
import Derived.Test.YtnfddblpenninaaDoorGixC
namespace Go.Proofs.YtnfddblpenninaaDoor
open Go.RowKit

theorem FixEnd.same {w w0 : World} {b prec : Nat} {e : Ending} {w' : World} (h : FixEnd w b prec e w') (hb : Below w0.heap.size w0 w) : FixEnd w0 b prec e w' := by
  obtain ⟨v, l, D, h1, h2, h3, h4, h5⟩ := h
  exact ⟨v, l, D, h1, h2.lower hb.size, h3, h4, below_next hb h5⟩
set_option maxRecDepth 100000 in
theorem afloat_walk (b prec : Nat) (hb : b < 18446744073709551616) (hx : expF b ≤ 1092) (hp : prec ≤ 12) (w : World) (hG : Glob w) :
    Calls Tryd.prog 40 #[.slice none 0 0, .float .f64 b, .int .u8 102, .int .i64 (prec : Int), .int .i64 64] w (FixEnd w b prec) := by
  have C := Lib.hid (ftoa_walk b prec hb hx hp w hG)
  clear hG
  go_enter Tryd.func40, Tryd.ntmps40
  go_wp2_with (go_at_call 46; refine C.out.mono ?_; intro e1 w1 h1; obtain ⟨v, l, D, rfl, h2⟩ := h1; have H2 := Lib.hid h2; clear h2)
  go_returns
  exact ⟨v, l, D, rfl, H2.out⟩
set_option maxRecDepth 100000 in
theorem sfloat_walk (b prec : Nat) (hb : b < 18446744073709551616) (hx : expF b ≤ 1092) (hp : prec ≤ 12) (w : World) (hG : Glob w) :
    Calls Tryd.prog 35 #[.slice none 0 0, .float .f64 b, .int .u8 102, .int .i64 (prec : Int), .int .i64 64] w (FixEnd w b prec) := by
  have C := Lib.hid (afloat_walk b prec hb hx hp w hG)
  clear hG
  go_enter Tryd.func35, Tryd.ntmps35
  go_wp2_with (go_at_call 40; refine C.out.mono ?_; intro e1 w1 h1; obtain ⟨v, l, D, rfl, h2⟩ := h1; have H2 := Lib.hid h2; clear h2)
  go_returns
  exact ⟨v, l, D, rfl, H2.out⟩
/-- Bits with the other sign. -/
def negB (b : Nat) : Nat := b ^^^ 9223372036854775808
/-- Whether bits are infinite, either way. -/
def infP (b : Nat) : Bool := FloatKind.f64.format.order b 9218868437227405311 == some .gt
set_option maxRecDepth 100000 in
theorem infp_any (b : Nat) (w : World) : Calls Tryd.prog 11 #[.float .f64 b, .int .i64 1] w fun e w' => e = .returned (.bool (infP b)) ∧ w' = w := by
  go_enter Tryd.func11, Tryd.ntmps11
  go_wp2_with fail
  go_returns
  exact ⟨rfl, rfl⟩
theorem neg_run (b : Nat) (w : World) : Sem.run Tryd.prog (Op.unary UnOp.neg (Value.float FloatKind.f64 b)) w = .ok (.float .f64 (negB b)) w := rfl
set_option maxRecDepth 100000 in
theorem infm_any (b : Nat) (w : World) : Calls Tryd.prog 11 #[.float .f64 b, .int .i64 (-1)] w fun e w' => e = .returned (.bool (infP (negB b))) ∧ w' = w := by
  have hn := neg_run b w
  go_enter Tryd.func11, Tryd.ntmps11
  go_wp2_with fail
  go_returns
  exact ⟨rfl, rfl⟩
set_option maxRecDepth 100000 in
set_option maxHeartbeats 4000000 in
theorem jfloat_walk (b prec : Nat) (hb : b < 18446744073709551616) (hx : expF b ≤ 1092) (hp : prec ≤ 12) (hnan : (FloatKind.f64.format.order b b != some .eq) = false) (hi1 : infP b = false) (hi2 : infP (negB b) = false) (w : World) (hG : Glob w) :
    Calls Tryd.prog 30 #[.slice none 0 0, .float .f64 b, .int .i64 64, .int .i64 (prec : Int)] w (FixEnd w b prec) := by
  have C := Lib.hid (sfloat_walk b prec hb hx hp w hG)
  have C10 := Lib.hid (nan_any b w)
  have Cp := Lib.hid (infp_any b w)
  have Cm := Lib.hid (infm_any b w)
  rw [hnan] at C10
  rw [hi1] at Cp
  rw [hi2] at Cm
  clear hG hnan hi1 hi2
  go_enter Tryd.func30, Tryd.ntmps30
  go_wp2_with (first
    | (go_at_call 10; refine C10.out.mono ?_; rintro e1 w1 ⟨rfl, rfl⟩)
    | (go_at_call 11; (with_reducible refine Cp.out.mono ?_); rintro e1 w1 ⟨rfl, rfl⟩)
    | (go_at_call 11; (with_reducible refine Cm.out.mono ?_); rintro e1 w1 ⟨rfl, rfl⟩)
    | (go_at_call 35; refine C.out.mono ?_; intro e1 w1 h1; obtain ⟨v, l, D, rfl, h2⟩ := h1; have H2 := Lib.hid h2; clear h2))
  go_returns
  exact ⟨v, l, D, rfl, H2.out⟩
set_option maxRecDepth 100000 in
theorem efloat_walk (b prec : Nat) (hb : b < 18446744073709551616) (hx : expF b ≤ 1092) (hp : prec ≤ 12) (hnan : (FloatKind.f64.format.order b b != some .eq) = false) (hi1 : infP b = false) (hi2 : infP (negB b) = false) (v0 : Value) (w : World) (hG : Glob w) :
    Calls Tryd.prog 20 #[v0, .slice none 0 0, .float .f64 b, .int .i64 (prec : Int)] w (FixEnd w b prec) := by
  have HG := Lib.hid hG
  have HJ := Lib.hid (fun w1 (hb1 : Below w.heap.size w w1) => jfloat_walk b prec hb hx hp hnan hi1 hi2 w1 (hG.below hb1))
  clear hG hnan hi1 hi2
  go_enter Tryd.func20, Tryd.ntmps20
  go_wp2_with (go_at_call 30; refine (HJ.out _ ((Below.refl w.heap.size w).alloc (Nat.le_refl _) _)).mono ?_; intro e1 w1 h1; have h2 := h1.same ((Below.refl w.heap.size w).alloc (Nat.le_refl _) _); clear h1; obtain ⟨v, l, D, rfl, h3⟩ := h2; have H2 := Lib.hid h3; clear h3)
  go_returns
  exact ⟨v, l, D, rfl, H2.out⟩
/-- The text is handed back. -/
def StrEnd (w : World) (b prec : Nat) (e : Ending) (w' : World) : Prop :=
  ∃ (l : List UInt8) (D : Nat), e = .returned (.string ⟨(signed (decide (9223372036854775808 ≤ b)) l).toArray⟩) ∧ Good l prec D ∧ Right D prec (manF b) (powF b) ∧ Below w.heap.size w w'
set_option maxRecDepth 100000 in
theorem lfloat_walk (b prec : Nat) (hb : b < 18446744073709551616) (hx : expF b ≤ 1092) (hp : prec ≤ 12) (hnan : (FloatKind.f64.format.order b b != some .eq) = false) (hi1 : infP b = false) (hi2 : infP (negB b) = false) (w : World) (hG : Glob w) :
    Calls Tryd.prog 6 #[.float .f64 b, .int .i64 64, .int .i64 (prec : Int)] w (StrEnd w b prec) := by
  have HJ := Lib.hid (efloat_walk b prec hb hx hp hnan hi1 hi2 (.agg #[]) w hG)
  clear hG hnan hi1 hi2
  go_enter Tryd.func6, Tryd.ntmps6
  go_wp2_with (go_at_call 20; refine HJ.out.mono ?_; intro e1 w1 h1; obtain ⟨v, l, D, rfl, h3⟩ := h1; have hs := out_string h3.1; have H2 := Lib.hid h3; clear h3)
  go_returns
  exact ⟨l, D, rfl, H2.out.2⟩
#print axioms lfloat_walk
end Go.Proofs.YtnfddblpenninaaDoor
/- How floats compare: by their parts. -/
namespace Go.Proofs.YtnfddblpenninaaDoor
open Go.RowKit

theorem xor_top (r : Nat) (h : r < 9223372036854775808) : r ^^^ 9223372036854775808 = r + 9223372036854775808 := by
  rw [Nat.add_comm, show (9223372036854775808 : Nat) = 2 ^ 63 from rfl]
  apply Nat.eq_of_testBit_eq
  intro i
  rw [Nat.testBit_xor, Nat.testBit_two_pow]
  rcases Nat.lt_trichotomy i 63 with hi | rfl | hi
  · rw [Nat.testBit_two_pow_add_gt hi, decide_eq_false (by omega), Bool.xor_false]
  · rw [Nat.testBit_two_pow_add_eq]
    simp
  · have h1 : r < 2 ^ i := Nat.lt_of_lt_of_le h (Nat.pow_le_pow_right (by decide : 0 < 2) (by omega : 63 ≤ i))
    have h2 : 2 ^ 63 + r < 2 ^ i := by
      have : 2 ^ 64 ≤ 2 ^ i := Nat.pow_le_pow_right (by decide : 0 < 2) hi
      omega
    rw [Nat.testBit_lt_two_pow h1, Nat.testBit_lt_two_pow h2, decide_eq_false (by omega)]
    rfl
theorem negB_lt {b : Nat} (h : b < 9223372036854775808) : negB b = b + 9223372036854775808 := xor_top b h
theorem negB_ge {b : Nat} (h : 9223372036854775808 ≤ b) (hb : b < 18446744073709551616) : negB b = b - 9223372036854775808 := by
  unfold negB
  have h1 : b = (b - 9223372036854775808) ^^^ 9223372036854775808 := by rw [xor_top _ (by omega)]; omega
  conv => lhs; rw [h1]
  rw [Nat.xor_assoc, Nat.xor_self, Nat.xor_zero]
theorem read_fin (b : Nat) (hb : b < 18446744073709551616) (h : expF b < 2047) : FloatKind.f64.format.read b = .number (decide (9223372036854775808 ≤ b)) (manF b) (powF b) := by
  have hneg : (b / 9223372036854775808 % 2 == 1) = decide (9223372036854775808 ≤ b) := by
    rw [Bool.eq_iff_iff]
    simp
    omega
  show Ieee.Format.read Ieee.double b = _
  unfold Ieee.Format.read
  simp only [show Ieee.double.signWeight = 9223372036854775808 from rfl, show Ieee.double.binade = 4503599627370496 from rfl, show Ieee.double.infRung = 9218868437227405312 from rfl, show Ieee.double.leastPlace = -1074 from rfl, hneg]
  have hx : expF b = b % 9223372036854775808 / 4503599627370496 := by unfold expF; omega
  have hf : fracF b = b % 9223372036854775808 % 4503599627370496 := by unfold fracF; omega
  unfold manF powF
  by_cases h0 : expF b = 0
  · rw [if_pos (by omega), if_pos h0, if_pos h0]
    congr 1
    omega
  · rw [if_neg (by omega), if_pos (by omega), if_neg h0, if_neg h0]
    congr 1
    · omega
    · omega
theorem read_big (b : Nat) (hb : b < 18446744073709551616) (h : expF b = 2047) : (FloatKind.f64.format.read b = .infinity (decide (9223372036854775808 ≤ b)) ∧ b % 9223372036854775808 = 9218868437227405312) ∨ ∃ f, FloatKind.f64.format.read b = .nan (decide (9223372036854775808 ≤ b)) f := by
  have hneg : (b / 9223372036854775808 % 2 == 1) = decide (9223372036854775808 ≤ b) := by
    rw [Bool.eq_iff_iff]
    simp
    omega
  have hx : expF b = b % 9223372036854775808 / 4503599627370496 := by unfold expF; omega
  show (Ieee.Format.read Ieee.double b = _ ∧ _) ∨ ∃ f, Ieee.Format.read Ieee.double b = _
  unfold Ieee.Format.read
  simp only [show Ieee.double.signWeight = 9223372036854775808 from rfl, show Ieee.double.binade = 4503599627370496 from rfl, show Ieee.double.infRung = 9218868437227405312 from rfl, hneg]
  rw [if_neg (by omega), if_neg (by omega)]
  by_cases hi : b % 9223372036854775808 = 9218868437227405312
  · exact .inl ⟨by rw [if_pos hi], hi⟩
  · exact .inr ⟨_, by rw [if_neg hi]⟩
theorem order_eq (x y : Nat) : FloatKind.f64.format.order x y = (FloatKind.f64.format.read x).order (FloatKind.f64.format.read y) := rfl
theorem order_self_fin (b : Nat) (hb : b < 18446744073709551616) (h : expF b < 2047) : (FloatKind.f64.format.order b b != some .eq) = false := by
  rw [order_eq, read_fin b hb h]
  simp only [Ieee.Datum.order]
  rw [Int.compare_eq_eq.2 rfl]
  rfl
theorem shl_eq (m n : Nat) : m <<< n = m * 2 ^ n := Nat.shiftLeft_eq m n
theorem infP_fin (b : Nat) (hb : b < 18446744073709551616) (h : expF b < 2047) : infP b = false := by
  unfold infP
  rw [order_eq, read_fin b hb h, read_fin 9218868437227405311 (by decide) (by decide)]
  have hp := pow_bounds b
  have hp2 : powF b ≤ 971 := by
    unfold powF
    split <;> omega
  have hm := man_lt b
  have e1 : manF 9218868437227405311 = 9007199254740991 := by decide
  have e2 : powF 9218868437227405311 = 971 := by decide
  simp only [Ieee.Datum.order, e1, e2]
  rw [show min (powF b) 971 = powF b by omega, Int.sub_self]
  have hle : Ieee.signed (decide (9223372036854775808 ≤ b)) (manF b) (Int.toNat 0) ≤ Ieee.signed (decide (9223372036854775808 ≤ 9218868437227405311)) 9007199254740991 (971 - powF b).toNat := by
    unfold Ieee.signed
    rw [shl_eq, shl_eq]
    have : 9007199254740991 * 1 ≤ 9007199254740991 * 2 ^ (971 - powF b).toNat := Nat.mul_le_mul_left _ (Nat.pow_pos (by decide))
    obtain ⟨Z, hZ⟩ : ∃ Z, Z = 9007199254740991 * 2 ^ (971 - powF b).toNat := ⟨_, rfl⟩
    rw [← hZ] at this ⊢
    simp only [Int.toNat_zero, Nat.pow_zero, Nat.mul_one]
    generalize decide (9223372036854775808 ≤ b) = s
    rw [show decide (9223372036854775808 ≤ 9218868437227405311) = false by decide]
    cases s
    · simp only [Bool.false_eq_true, if_false]
      omega
    · simp only [Bool.false_eq_true, if_false, if_true]
      omega
  rcases Int.lt_or_eq_of_le hle with h1 | h1
  · rw [Int.compare_eq_lt.2 h1]
    rfl
  · rw [Int.compare_eq_eq.2 h1]
    rfl
theorem exp_mod (b : Nat) (_hb : b < 18446744073709551616) : expF (b % 9223372036854775808) = expF b := by unfold expF; omega
theorem exp_neg (b : Nat) (hb : b < 18446744073709551616) : expF (negB b) = expF b ∧ negB b < 18446744073709551616 := by
  rcases Nat.lt_or_ge b 9223372036854775808 with h | h
  · rw [negB_lt h]
    unfold expF
    omega
  · rw [negB_ge h hb]
    unfold expF
    omega
/-- A float that is too great: it is neither 0 nor below 10^21. -/
theorem too_great (r : Nat) (hr : r < 9223372036854775808) (h : 1093 ≤ expF r) (hn : (FloatKind.f64.format.order r r != some .eq) = false) : (FloatKind.f64.format.order r 0 != some .eq) = true ∧ (FloatKind.f64.format.order r 4921056587992461136 == some .lt) = false := by
  have hx : expF r < 2048 := by unfold expF; omega
  have hd : decide (9223372036854775808 ≤ r) = false := by simp; omega
  have z0 : FloatKind.f64.format.read 0 = .number false 0 (-1074) := by rw [read_fin 0 (by decide) (by decide)]; rfl
  have z1 : FloatKind.f64.format.read 4921056587992461136 = .number false 7629394531250000 17 := by
    rw [read_fin 4921056587992461136 (by decide) (by decide)]
    congr 1
  rcases Nat.lt_or_ge (expF r) 2047 with hf | hf
  · rw [order_eq, order_eq, read_fin r (by omega) hf, z0, z1, hd]
    have hm : 4503599627370496 ≤ manF r := by unfold manF; rw [if_neg (by omega)]; omega
    have hp : 18 ≤ powF r := by unfold powF; rw [if_neg (by omega)]; omega
    simp only [Ieee.Datum.order]
    rw [show min (powF r) (-1074) = -1074 by omega, show min (powF r) 17 = 17 by omega]
    have p1 : 0 < 2 ^ (powF r - -1074).toNat := Nat.pow_pos (by decide)
    have p2 : 2 ^ 1 ≤ 2 ^ (powF r - 17).toNat := Nat.pow_le_pow_right (by decide) (by omega)
    have g1 : 0 < manF r * 2 ^ (powF r - -1074).toNat := Nat.mul_pos (by omega) p1
    have g2 : 4503599627370496 * 2 ≤ manF r * 2 ^ (powF r - 17).toNat := Nat.mul_le_mul hm p2
    constructor
    · have : Ieee.signed false 0 (-1074 - -1074 : Int).toNat < Ieee.signed false (manF r) (powF r - -1074).toNat := by
        unfold Ieee.signed
        rw [if_neg (by decide), if_neg (by decide), shl_eq, shl_eq, Nat.zero_mul]
        omega
      rw [Int.compare_eq_gt.2 this]
      rfl
    · have : Ieee.signed false 7629394531250000 (17 - 17 : Int).toNat < Ieee.signed false (manF r) (powF r - 17).toNat := by
        unfold Ieee.signed
        rw [if_neg (by decide), if_neg (by decide), shl_eq, shl_eq]
        simp only [Int.sub_self, Int.toNat_zero, Nat.pow_zero, Nat.mul_one]
        omega
      rw [Int.compare_eq_gt.2 this]
      rfl
  · rcases read_big r (by omega) (by omega) with ⟨hr2, _⟩ | ⟨f, hr2⟩
    · rw [order_eq, order_eq, hr2, z0, z1, hd]
      exact ⟨rfl, rfl⟩
    · rw [order_eq, hr2] at hn
      simp [Ieee.Datum.order] at hn
end Go.Proofs.YtnfddblpenninaaDoor
/- A float with a precision is written with so many digits behind the point: the law's walk. -/
namespace Go.Proofs.YtnfddblpenninaaDoor
open Go.RowKit

theorem man_neg (b : Nat) (hb : b < 18446744073709551616) : manF (negB b) = manF b ∧ powF (negB b) = powF b := by
  have h1 := (exp_neg b hb).1
  have h2 : fracF (negB b) = fracF b := by
    rcases Nat.lt_or_ge b 9223372036854775808 with h | h
    · rw [negB_lt h]
      unfold fracF
      omega
    · rw [negB_ge h hb]
      unfold fracF
      omega
  unfold manF powF
  rw [h1, h2]
  exact ⟨rfl, rfl⟩
/-- The greater of a float and its opposite. -/
theorem max_two (b : Nat) (hb : b < 18446744073709551616) (hnan : (FloatKind.f64.format.order b b != some .eq) = false) (W : World) : (Builtin.max2 (.float .f64 b) (.float .f64 (negB b))).run Tryd.prog W = .ok (.float .f64 (b % 9223372036854775808)) W := by
  have hng := (exp_neg b hb).2
  have hdn : decide (9223372036854775808 ≤ negB b) = !decide (9223372036854775808 ≤ b) := by
    rcases Nat.lt_or_ge b 9223372036854775808 with h | h
    · rw [negB_lt h, decide_eq_true (by omega), decide_eq_false (by omega)]
      rfl
    · rw [negB_ge h hb, decide_eq_false (by omega), decide_eq_true (by omega)]
      rfl
  obtain ⟨s, hs⟩ : ∃ s, s = decide (9223372036854775808 ≤ b) := ⟨_, rfl⟩
  have hres : b % 9223372036854775808 = if s then negB b else b := by
    rcases Nat.lt_or_ge b 9223372036854775808 with h | h
    · rw [hs, decide_eq_false (by omega), if_neg (by decide)]
      omega
    · rw [hs, decide_eq_true h, if_pos rfl, negB_ge h hb]
      omega
  have hx : expF b < 2048 := by unfold expF; omega
  have hneg : (FloatKind.f64.decode b).neg = s := by
    show (FloatKind.f64.format.read b).neg = s
    rcases Nat.lt_or_ge (expF b) 2047 with hf | hf
    · rw [read_fin b hb hf, hs]
      rfl
    · rcases read_big b hb (by omega) with ⟨hr, _⟩ | ⟨f, hr⟩
      · rw [hr, hs]
        rfl
      · rw [hr, hs]
        rfl
  have ho : (s = true ∧ FloatKind.f64.format.order b (negB b) = some .lt) ∨ (s = false ∧ FloatKind.f64.format.order b (negB b) = some .gt) ∨ FloatKind.f64.format.order b (negB b) = some .eq := by
    rcases Nat.lt_or_ge (expF b) 2047 with hf | hf
    · rw [order_eq, read_fin b hb hf, read_fin (negB b) hng (by rw [(exp_neg b hb).1]; exact hf), hdn, ← hs, (man_neg b hb).1, (man_neg b hb).2]
      simp only [Ieee.Datum.order]
      rw [show min (powF b) (powF b) = powF b by omega, Int.sub_self]
      unfold Ieee.signed
      rw [shl_eq]
      simp only [Int.toNat_zero, Nat.pow_zero, Nat.mul_one]
      cases s
      · right
        simp only [Bool.false_eq_true, if_false, Bool.not_false, if_true, true_and]
        rcases Nat.eq_zero_or_pos (manF b) with h | h
        · right
          rw [h]
          rfl
        · left
          rw [Int.compare_eq_gt.2 (by omega)]
      · rcases Nat.eq_zero_or_pos (manF b) with h | h
        · refine .inr (.inr ?_)
          simp only [if_true, Bool.not_true, Bool.false_eq_true, if_false]
          rw [h]
          rfl
        · refine .inl ⟨rfl, ?_⟩
          simp only [if_true, Bool.not_true, Bool.false_eq_true, if_false]
          rw [Int.compare_eq_lt.2 (by omega)]
    · rcases read_big b hb (by omega) with ⟨hr, _⟩ | ⟨f, hr⟩
      · rcases read_big (negB b) hng (by rw [(exp_neg b hb).1]; omega) with ⟨hr2, _⟩ | ⟨f, hr2⟩
        · rw [order_eq, hr, hr2, hdn, ← hs]
          cases s
          · exact .inr (.inl ⟨rfl, rfl⟩)
          · exact .inl ⟨rfl, rfl⟩
        · exfalso
          have hm : b % 9223372036854775808 = 9218868437227405312 := by
            rcases read_big b hb (by omega) with ⟨_, h⟩ | ⟨f, h⟩
            · exact h
            · rw [hr] at h
              cases h
          have hm2 : negB b % 9223372036854775808 = 9218868437227405312 := by
            rcases Nat.lt_or_ge b 9223372036854775808 with h | h
            · rw [negB_lt h]
              omega
            · rw [negB_ge h hb]
              omega
          have h3 : FloatKind.f64.format.read (negB b) = .infinity (decide (9223372036854775808 ≤ negB b)) := by
            have hneg2 : (negB b / 9223372036854775808 % 2 == 1) = decide (9223372036854775808 ≤ negB b) := by
              rw [Bool.eq_iff_iff]
              simp
              omega
            show Ieee.Format.read Ieee.double (negB b) = _
            unfold Ieee.Format.read
            simp only [show Ieee.double.signWeight = 9223372036854775808 from rfl, show Ieee.double.binade = 4503599627370496 from rfl, show Ieee.double.infRung = 9218868437227405312 from rfl, hneg2]
            rw [if_neg (by omega), if_neg (by omega), if_pos hm2]
          rw [h3] at hr2
          cases hr2
      · rw [order_eq, hr] at hnan
        simp [Ieee.Datum.order] at hnan
  rw [hres]
  unfold Builtin.max2
  rcases ho with ⟨h1, h2⟩ | ⟨h1, h2⟩ | h2
  · simp only [h2, h1, if_true]
    rfl
  · simp only [h2, h1, Bool.false_eq_true, if_false]
    rfl
  · simp only [h2, hneg]
    rfl
theorem max_run (b : Nat) (hb : b < 18446744073709551616) (hnan : (FloatKind.f64.format.order b b != some .eq) = false) (ts : Array TypeId) (t : TypeId) (W : World) : (Builtin.max_ ts t #[.float .f64 b, .float .f64 (negB b)]).run Tryd.prog W = .ok (.float .f64 (b % 9223372036854775808)) W := by
  have h := max_two b hb hnan W
  unfold Builtin.max_
  simpa using h
theorem max_run_nan (b : Nat) (hb : b < 18446744073709551616) (hnan : (FloatKind.f64.format.order b b != some .eq) = true) (W : World) : ∃ c, ∀ (ts : Array TypeId) (t : TypeId), (Builtin.max_ ts t #[.float .f64 b, .float .f64 (negB b)]).run Tryd.prog W = .ok (.float .f64 c) W.drew := by
  have hx : expF b < 2048 := by unfold expF; omega
  have ho : FloatKind.f64.format.order b (negB b) = none := by
    rcases Nat.lt_or_ge (expF b) 2047 with hf | hf
    · rw [order_self_fin b hb hf] at hnan
      cases hnan
    · rcases read_big b hb (by omega) with ⟨hr, _⟩ | ⟨f, hr⟩
      · rw [order_eq, hr] at hnan
        revert hnan
        simp [Ieee.Datum.order]
      · rw [order_eq, hr]
        rfl
  refine ⟨(Question.nanMinMax .f64 true b (negB b)).cut (W.tape W.drawn (.nanMinMax .f64 true b (negB b))), fun ts t => ?_⟩
  have h : (Builtin.max2 (.float .f64 b) (.float .f64 (negB b))).run Tryd.prog W = .ok (.float .f64 ((Question.nanMinMax .f64 true b (negB b)).cut (W.tape W.drawn (.nanMinMax .f64 true b (negB b))))) W.drew := by
    unfold Builtin.max2
    simp only [ho]
    rfl
  unfold Builtin.max_
  simpa using h
end Go.Proofs.YtnfddblpenninaaDoor
/- A float with a precision is written with so many digits behind the point: the law. -/
namespace Go.Proofs.YtnfddblpenninaaDoor
open Go.RowKit

theorem fix_call (b n : Nat) (l : List UInt8) (D : Nat) (w : World) (hb : b < 18446744073709551616) (hx : expF b ≤ 1092) (hn : n ≤ 12) (hnan : (FloatKind.f64.format.order b b != some .eq) = false) (_hs : b = b) (hg : Good l n D) (hR : Right D n (manF b) (powF b)) :
    Calls Tryd.prog 5 #[.string ⟨(signed (decide (9223372036854775808 ≤ b)) l).toArray⟩, .float .f64 b, .int .i64 (n : Int)] w fun e w' => e = .returned (.bool true) ∧ Below w.heap.size w w' := by
  obtain ⟨c0, l', hl⟩ : ∃ c0 l', l = c0 :: l' := by
    cases l with
    | nil => have := hg.cnt; simp [cntD] at this
    | cons c r => exact ⟨c, r, rfl⟩
  exact fixed_walk _ _ l rfl hg.plain hg.len hg.cnt c0 l' hl n b hg.beh hn hg.dot hb hnan (infP_fin (b % 9223372036854775808) (by omega) (by rw [exp_mod b hb]; omega)) rfl (by rw [hg.num]; exact hR) w
theorem order_mod (b : Nat) (hb : b < 18446744073709551616) (hnan : (FloatKind.f64.format.order b b != some .eq) = false) : (FloatKind.f64.format.order (b % 9223372036854775808) (b % 9223372036854775808) != some .eq) = false := by
  have hx : expF b < 2048 := by unfold expF; omega
  rcases Nat.lt_or_ge (expF b) 2047 with hf | hf
  · exact order_self_fin _ (by omega) (by rw [exp_mod b hb]; exact hf)
  · rcases read_big b hb (by omega) with ⟨_, hr⟩ | ⟨f, hr⟩
    · rw [hr]
      rfl
    · rw [order_eq, hr] at hnan
      simp [Ieee.Datum.order] at hnan
set_option maxRecDepth 100000 in
set_option maxHeartbeats 4000000 in
theorem fixed_law (b d : Nat) (hb : b < 18446744073709551616) (hd : d < 256) (w : World) (hG : Glob w) (hE : Errs w) :
    Calls Tryd.prog 3 #[.float .f64 b, .int .u8 (d : Int)] w fun e w' => e = .returned (.bool true) ∧ Below w.heap.size w w' := by
  obtain ⟨n, hn⟩ : ∃ n, n = d % 13 := ⟨_, rfl⟩
  have hn12 : n ≤ 12 := by omega
  have hcast : (d : Int) % 13 = (n : Int) := by omega
  have hneg := fun W => neg_run b W
  clear hn
  cases hnan : (FloatKind.f64.format.order b b != some .eq)
  · have hmax := fun ts t W => max_run b hb hnan ts t W
    have hHr := order_mod b hb hnan
    obtain ⟨r, hr⟩ : ∃ r, r = b % 9223372036854775808 := ⟨_, rfl⟩
    rw [← hr] at hmax hHr
    have hrl : r < 9223372036854775808 := by omega
    have hxr : expF r = expF b := by rw [hr]; exact exp_mod b hb
    clear hr
    rcases Nat.lt_or_ge 1092 (expF b) with hx | hx
    · obtain ⟨g1, g2⟩ := too_great r hrl (by omega) hHr
      clear hxr hx hG hE hHr
      cases hz : (FloatKind.f64.format.order r 4517329193108106637 == some .gt || FloatKind.f64.format.order r 4517329193108106637 == some .eq)
      all_goals
        go_enter Tryd.func3, Tryd.ntmps3
        go_wp2_with fail
        go_returns
        exact ⟨rfl, Below.refl _ _⟩
    · have H1092 := Lib.hid hx
      have C6 := Lib.hid (lfloat_walk b n hb hx hn12 hnan (infP_fin b hb (by omega)) (infP_fin (negB b) (exp_neg b hb).2 (by rw [(exp_neg b hb).1]; omega)) w hG)
      have HE := Lib.hid hE
      have hsg : b = b := rfl
      have HS := Lib.hid hsg
      clear hG hE hHr hxr hx hsg
      have hsg := HS.out
      cases hz1 : (FloatKind.f64.format.order r 0 != some .eq)
      · go_enter Tryd.func3, Tryd.ntmps3
        go_wp2_with (first
          | (go_at_call 6; refine C6.out.mono ?_; intro e1 w1 h1; obtain ⟨l, D, rfl, h2, h3, h4⟩ := h1; have H2 := Lib.hid (And.intro h2 (And.intro h3 h4)); clear h2 h3 h4; have C5 := Lib.hid (fix_call b n l D w1 hb H1092.out hn12 hnan hsg H2.out.1 H2.out.2.1))
          | (go_at_call 5; refine C5.out.mono ?_; rintro e1 w2 ⟨rfl, h5⟩; have H5 := Lib.hid h5; clear h5)
          | (go_at_call 7; refine (awake_any w _ (below_next H2.out.2.2 H5.out) HE.out).mono ?_; rintro e1 w3 ⟨rfl, h6⟩; have H6 := Lib.hid h6; clear h6))
        go_returns
        exact ⟨rfl, H6.out⟩
      · cases hz2 : (FloatKind.f64.format.order r 4517329193108106637 == some .gt || FloatKind.f64.format.order r 4517329193108106637 == some .eq)
        · go_enter Tryd.func3, Tryd.ntmps3
          go_wp2_with fail
          go_returns
          exact ⟨rfl, Below.refl _ _⟩
        · cases hz3 : (FloatKind.f64.format.order r 4921056587992461136 == some .lt)
          · go_enter Tryd.func3, Tryd.ntmps3
            go_wp2_with fail
            go_returns
            exact ⟨rfl, Below.refl _ _⟩
          · go_enter Tryd.func3, Tryd.ntmps3
            go_wp2_with (first
              | (go_at_call 6; refine C6.out.mono ?_; intro e1 w1 h1; obtain ⟨l, D, rfl, h2, h3, h4⟩ := h1; have H2 := Lib.hid (And.intro h2 (And.intro h3 h4)); clear h2 h3 h4; have C5 := Lib.hid (fix_call b n l D w1 hb H1092.out hn12 hnan hsg H2.out.1 H2.out.2.1))
              | (go_at_call 5; refine C5.out.mono ?_; rintro e1 w2 ⟨rfl, h5⟩; have H5 := Lib.hid h5; clear h5)
              | (go_at_call 7; refine (awake_any w _ (below_next H2.out.2.2 H5.out) HE.out).mono ?_; rintro e1 w3 ⟨rfl, h6⟩; have H6 := Lib.hid h6; clear h6))
            go_returns
            exact ⟨rfl, H6.out⟩
  · obtain ⟨c, hmax⟩ := max_run_nan b hb hnan w
    clear hG hE
    go_enter Tryd.func3, Tryd.ntmps3
    go_wp2_with fail
    go_returns
    exact ⟨rfl, below_drewN (Below.refl _ _) 1⟩
#print axioms fixed_law
end Go.Proofs.YtnfddblpenninaaDoor
