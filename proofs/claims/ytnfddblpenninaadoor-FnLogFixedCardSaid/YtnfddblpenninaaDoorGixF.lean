/- How floats compare: by their parts. -/
import Derived.Test.YtnfddblpenninaaDoorGixE
namespace Go.Proofs.YtnfddblpenninaaDoor
open Go.RowKit

theorem xor_top (r : Nat) (h : r < 9223372036854775808) : r ^^^ 9223372036854775808 = r + 9223372036854775808 := by
  rw [Nat.add_comm, show (9223372036854775808 : Nat) = 2 ^ 63 from rfl]
  apply Nat.eq_of_testBit_eq
  intro i
  rw [Nat.testBit_xor, Nat.testBit_two_pow]
  rcases Nat.lt_trichotomy i 63 with hi | rfl | hi
  · rw [Nat.testBit_two_pow_add_gt hi, decide_eq_false (by omega), Bool.xor_false]
  · rw [Nat.testBit_two_pow_add_eq]
    simp
  · have h1 : r < 2 ^ i := Nat.lt_of_lt_of_le h (Nat.pow_le_pow_right (by decide : 0 < 2) (by omega : 63 ≤ i))
    have h2 : 2 ^ 63 + r < 2 ^ i := by
      have : 2 ^ 64 ≤ 2 ^ i := Nat.pow_le_pow_right (by decide : 0 < 2) hi
      omega
    rw [Nat.testBit_lt_two_pow h1, Nat.testBit_lt_two_pow h2, decide_eq_false (by omega)]
    rfl
theorem negB_lt {b : Nat} (h : b < 9223372036854775808) : negB b = b + 9223372036854775808 := xor_top b h
theorem negB_ge {b : Nat} (h : 9223372036854775808 ≤ b) (hb : b < 18446744073709551616) : negB b = b - 9223372036854775808 := by
  unfold negB
  have h1 : b = (b - 9223372036854775808) ^^^ 9223372036854775808 := by rw [xor_top _ (by omega)]; omega
  conv => lhs; rw [h1]
  rw [Nat.xor_assoc, Nat.xor_self, Nat.xor_zero]
theorem read_fin (b : Nat) (hb : b < 18446744073709551616) (h : expF b < 2047) : FloatKind.f64.format.read b = .number (decide (9223372036854775808 ≤ b)) (manF b) (powF b) := by
  have hneg : (b / 9223372036854775808 % 2 == 1) = decide (9223372036854775808 ≤ b) := by
    rw [Bool.eq_iff_iff]
    simp
    omega
  show Ieee.Format.read Ieee.double b = _
  unfold Ieee.Format.read
  simp only [show Ieee.double.signWeight = 9223372036854775808 from rfl, show Ieee.double.binade = 4503599627370496 from rfl, show Ieee.double.infRung = 9218868437227405312 from rfl, show Ieee.double.leastPlace = -1074 from rfl, hneg]
  have hx : expF b = b % 9223372036854775808 / 4503599627370496 := by unfold expF; omega
  have hf : fracF b = b % 9223372036854775808 % 4503599627370496 := by unfold fracF; omega
  unfold manF powF
  by_cases h0 : expF b = 0
  · rw [if_pos (by omega), if_pos h0, if_pos h0]
    congr 1
    omega
  · rw [if_neg (by omega), if_pos (by omega), if_neg h0, if_neg h0]
    congr 1
    · omega
    · omega
theorem read_big (b : Nat) (hb : b < 18446744073709551616) (h : expF b = 2047) : (FloatKind.f64.format.read b = .infinity (decide (9223372036854775808 ≤ b)) ∧ b % 9223372036854775808 = 9218868437227405312) ∨ ∃ f, FloatKind.f64.format.read b = .nan (decide (9223372036854775808 ≤ b)) f := by
  have hneg : (b / 9223372036854775808 % 2 == 1) = decide (9223372036854775808 ≤ b) := by
    rw [Bool.eq_iff_iff]
    simp
    omega
  have hx : expF b = b % 9223372036854775808 / 4503599627370496 := by unfold expF; omega
  show (Ieee.Format.read Ieee.double b = _ ∧ _) ∨ ∃ f, Ieee.Format.read Ieee.double b = _
  unfold Ieee.Format.read
  simp only [show Ieee.double.signWeight = 9223372036854775808 from rfl, show Ieee.double.binade = 4503599627370496 from rfl, show Ieee.double.infRung = 9218868437227405312 from rfl, hneg]
  rw [if_neg (by omega), if_neg (by omega)]
  by_cases hi : b % 9223372036854775808 = 9218868437227405312
  · exact .inl ⟨by rw [if_pos hi], hi⟩
  · exact .inr ⟨_, by rw [if_neg hi]⟩
theorem order_eq (x y : Nat) : FloatKind.f64.format.order x y = (FloatKind.f64.format.read x).order (FloatKind.f64.format.read y) := rfl
theorem order_self_fin (b : Nat) (hb : b < 18446744073709551616) (h : expF b < 2047) : (FloatKind.f64.format.order b b != some .eq) = false := by
  rw [order_eq, read_fin b hb h]
  simp only [Ieee.Datum.order]
  rw [Int.compare_eq_eq.2 rfl]
  rfl
theorem shl_eq (m n : Nat) : m <<< n = m * 2 ^ n := Nat.shiftLeft_eq m n
theorem infP_fin (b : Nat) (hb : b < 18446744073709551616) (h : expF b < 2047) : infP b = false := by
  unfold infP
  rw [order_eq, read_fin b hb h, read_fin 9218868437227405311 (by decide) (by decide)]
  have hp := pow_bounds b
  have hp2 : powF b ≤ 971 := by
    unfold powF
    split <;> omega
  have hm := man_lt b
  have e1 : manF 9218868437227405311 = 9007199254740991 := by decide
  have e2 : powF 9218868437227405311 = 971 := by decide
  simp only [Ieee.Datum.order, e1, e2]
  rw [show min (powF b) 971 = powF b by omega, Int.sub_self]
  have hle : Ieee.signed (decide (9223372036854775808 ≤ b)) (manF b) (Int.toNat 0) ≤ Ieee.signed (decide (9223372036854775808 ≤ 9218868437227405311)) 9007199254740991 (971 - powF b).toNat := by
    unfold Ieee.signed
    rw [shl_eq, shl_eq]
    have : 9007199254740991 * 1 ≤ 9007199254740991 * 2 ^ (971 - powF b).toNat := Nat.mul_le_mul_left _ (Nat.pow_pos (by decide))
    obtain ⟨Z, hZ⟩ : ∃ Z, Z = 9007199254740991 * 2 ^ (971 - powF b).toNat := ⟨_, rfl⟩
    rw [← hZ] at this ⊢
    simp only [Int.toNat_zero, Nat.pow_zero, Nat.mul_one]
    generalize decide (9223372036854775808 ≤ b) = s
    rw [show decide (9223372036854775808 ≤ 9218868437227405311) = false by decide]
    cases s
    · simp only [Bool.false_eq_true, if_false]
      omega
    · simp only [Bool.false_eq_true, if_false, if_true]
      omega
  rcases Int.lt_or_eq_of_le hle with h1 | h1
  · rw [Int.compare_eq_lt.2 h1]
    rfl
  · rw [Int.compare_eq_eq.2 h1]
    rfl
theorem exp_mod (b : Nat) (_hb : b < 18446744073709551616) : expF (b % 9223372036854775808) = expF b := by unfold expF; omega
theorem exp_neg (b : Nat) (hb : b < 18446744073709551616) : expF (negB b) = expF b ∧ negB b < 18446744073709551616 := by
  rcases Nat.lt_or_ge b 9223372036854775808 with h | h
  · rw [negB_lt h]
    unfold expF
    omega
  · rw [negB_ge h hb]
    unfold expF
    omega
/-- A float that is too great: it is neither 0 nor below 10^21. -/
theorem too_great (r : Nat) (hr : r < 9223372036854775808) (h : 1093 ≤ expF r) (hn : (FloatKind.f64.format.order r r != some .eq) = false) : (FloatKind.f64.format.order r 0 != some .eq) = true ∧ (FloatKind.f64.format.order r 4921056587992461136 == some .lt) = false := by
  have hx : expF r < 2048 := by unfold expF; omega
  have hd : decide (9223372036854775808 ≤ r) = false := by simp; omega
  have z0 : FloatKind.f64.format.read 0 = .number false 0 (-1074) := by rw [read_fin 0 (by decide) (by decide)]; rfl
  have z1 : FloatKind.f64.format.read 4921056587992461136 = .number false 7629394531250000 17 := by
    rw [read_fin 4921056587992461136 (by decide) (by decide)]
    congr 1
  rcases Nat.lt_or_ge (expF r) 2047 with hf | hf
  · rw [order_eq, order_eq, read_fin r (by omega) hf, z0, z1, hd]
    have hm : 4503599627370496 ≤ manF r := by unfold manF; rw [if_neg (by omega)]; omega
    have hp : 18 ≤ powF r := by unfold powF; rw [if_neg (by omega)]; omega
    simp only [Ieee.Datum.order]
    rw [show min (powF r) (-1074) = -1074 by omega, show min (powF r) 17 = 17 by omega]
    have p1 : 0 < 2 ^ (powF r - -1074).toNat := Nat.pow_pos (by decide)
    have p2 : 2 ^ 1 ≤ 2 ^ (powF r - 17).toNat := Nat.pow_le_pow_right (by decide) (by omega)
    have g1 : 0 < manF r * 2 ^ (powF r - -1074).toNat := Nat.mul_pos (by omega) p1
    have g2 : 4503599627370496 * 2 ≤ manF r * 2 ^ (powF r - 17).toNat := Nat.mul_le_mul hm p2
    constructor
    · have : Ieee.signed false 0 (-1074 - -1074 : Int).toNat < Ieee.signed false (manF r) (powF r - -1074).toNat := by
        unfold Ieee.signed
        rw [if_neg (by decide), if_neg (by decide), shl_eq, shl_eq, Nat.zero_mul]
        omega
      rw [Int.compare_eq_gt.2 this]
      rfl
    · have : Ieee.signed false 7629394531250000 (17 - 17 : Int).toNat < Ieee.signed false (manF r) (powF r - 17).toNat := by
        unfold Ieee.signed
        rw [if_neg (by decide), if_neg (by decide), shl_eq, shl_eq]
        simp only [Int.sub_self, Int.toNat_zero, Nat.pow_zero, Nat.mul_one]
        omega
      rw [Int.compare_eq_gt.2 this]
      rfl
  · rcases read_big r (by omega) (by omega) with ⟨hr2, _⟩ | ⟨f, hr2⟩
    · rw [order_eq, order_eq, hr2, z0, z1, hd]
      exact ⟨rfl, rfl⟩
    · rw [order_eq, hr2] at hn
      simp [Ieee.Datum.order] at hn
end Go.Proofs.YtnfddblpenninaaDoor
