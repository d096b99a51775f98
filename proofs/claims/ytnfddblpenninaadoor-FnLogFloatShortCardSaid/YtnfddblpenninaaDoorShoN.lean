/- Floats of 32 bits among those of 64: plain laws. -/
import Derived.Test.YtnfddblpenninaaDoorShoM
import Derived.Test.YtnfddblpenninaaDoorMgK
import Derived.Laws.FloatArith
namespace Go.Proofs.YtnfddblpenninaaDoor
open Go.RowKit

theorem readS_fin (c : Nat) (hc : c < 4294967296) (h : expS c < 255) : FloatKind.f32.format.read c = .number (decide (2147483648 ≤ c)) (manS c) (powS c) := by
  have hneg : (c / 2147483648 % 2 == 1) = decide (2147483648 ≤ c) := by
    rw [Bool.eq_iff_iff]
    simp
    omega
  show Ieee.Format.read Ieee.single c = _
  unfold Ieee.Format.read
  simp only [show Ieee.single.signWeight = 2147483648 from rfl, show Ieee.single.binade = 8388608 from rfl, show Ieee.single.infRung = 2139095040 from rfl, show Ieee.single.leastPlace = -149 from rfl, hneg]
  have hx : expS c = c % 2147483648 / 8388608 := by unfold expS; omega
  have hf : fracS c = c % 2147483648 % 8388608 := by unfold fracS; omega
  unfold manS powS
  by_cases h0 : expS c = 0
  · rw [if_pos (by omega), if_pos h0, if_pos h0]
    congr 1
    omega
  · rw [if_neg (by omega), if_pos (by omega), if_neg h0, if_neg h0]
    congr 1
    · omega
    · omega
theorem readS_big (c : Nat) (hc : c < 4294967296) (h : expS c = 255) : (FloatKind.f32.format.read c = .infinity (decide (2147483648 ≤ c))) ∨ ∃ f, FloatKind.f32.format.read c = .nan (decide (2147483648 ≤ c)) f := by
  have hneg : (c / 2147483648 % 2 == 1) = decide (2147483648 ≤ c) := by
    rw [Bool.eq_iff_iff]
    simp
    omega
  have hx : expS c = c % 2147483648 / 8388608 := by unfold expS; omega
  show (Ieee.Format.read Ieee.single c = _) ∨ ∃ f, Ieee.Format.read Ieee.single c = _
  unfold Ieee.Format.read
  simp only [show Ieee.single.signWeight = 2147483648 from rfl, show Ieee.single.binade = 8388608 from rfl, show Ieee.single.infRung = 2139095040 from rfl, hneg]
  rw [if_neg (by omega), if_neg (by omega)]
  by_cases hi : c % 2147483648 = 2139095040
  · exact .inl (by rw [if_pos hi])
  · exact .inr ⟨_, by rw [if_neg hi]⟩
/-- How far a float of 32 bits has to be moved up. -/
def upS (c : Nat) : Nat := 52 - (manS c).log2
theorem logS (c : Nat) (h0 : manS c ≠ 0) : (manS c).log2 ≤ 23 ∧ 2 ^ (manS c).log2 ≤ manS c ∧ manS c < 2 ^ ((manS c).log2 + 1) := by
  have h1 := Nat.log2_self_le h0
  have h2 := Nat.lt_log2_self (n := manS c)
  refine ⟨?_, h1, h2⟩
  have h3 := manS_lt c
  refine Nat.le_of_not_lt fun h => ?_
  have := Nat.pow_le_pow_right (by decide : 0 < 2) (by omega : 24 ≤ (manS c).log2)
  omega
theorem powS_bounds (c : Nat) (h : expS c < 255) : -149 ≤ powS c ∧ powS c ≤ 104 := by
  unfold powS
  split <;> omega
theorem normS (c : Nat) : 8388608 ≤ manS c ∨ powS c = -149 := by
  unfold manS powS
  split
  · exact .inr rfl
  · exact .inl (by omega)
/-- The same number as a float of 64 bits. -/
def wid (c : Nat) : Nat := Ieee.double.nearest (decide (2147483648 ≤ c)) (manS c) (powS c)
theorem cut_zero (neg : Bool) (n : Nat) : Ieee.Toward.even.cut neg n 0 = n := by
  unfold Ieee.Toward.cut
  simp [Nat.mod_one]
theorem wid_zero (c : Nat) (h0 : manS c = 0) : wid c = if 2147483648 ≤ c then 9223372036854775808 else 0 := by
  unfold wid Ieee.Format.nearest
  rw [if_pos h0]
  unfold Ieee.Format.word
  by_cases h : 2147483648 ≤ c
  · rw [if_pos h, decide_eq_true h]
    rfl
  · rw [if_neg h, decide_eq_false h]
    rfl
set_option maxRecDepth 100000 in
theorem wid_eq (c : Nat) (h : expS c < 255) (h0 : manS c ≠ 0) : ∃ R : Nat, R < 9218868437227405312 ∧ R = (powS c - upS c + 1074).toNat * 4503599627370496 + manS c * 2 ^ upS c ∧ wid c = if 2147483648 ≤ c then 9223372036854775808 + R else R := by
  obtain ⟨l1, l2, l3⟩ := logS c h0
  obtain ⟨p1, p2⟩ := powS_bounds c h
  have hu : upS c ≤ 52 ∧ upS c + (manS c).log2 = 52 := by unfold upS; omega
  have hM : manS c * 2 ^ upS c < 9007199254740992 := by
    have e : 2 ^ ((manS c).log2 + 1) * 2 ^ upS c = 9007199254740992 := by rw [← Nat.pow_add, show (manS c).log2 + 1 + upS c = 53 by omega]
    rw [← e]
    exact Nat.mul_lt_mul_of_pos_right l3 (Nat.pow_pos (by decide))
  have hlt : (powS c - upS c + 1074).toNat * 4503599627370496 + manS c * 2 ^ upS c < 9218868437227405312 := by
    have : (powS c - upS c + 1074).toNat ≤ 1178 := by omega
    have h2 := Nat.mul_le_mul_right 4503599627370496 this
    omega
  refine ⟨_, hlt, rfl, ?_⟩
  · unfold wid Ieee.Format.nearest
    rw [if_neg h0]
    simp only [show Ieee.double.fractionBits = 52 from rfl, show Ieee.double.leastPlace = -1074 from rfl, show Ieee.double.binade = 4503599627370496 from rfl, show Ieee.double.infRung = 9218868437227405312 from rfl]
    have e1 : max (powS c + ((manS c).log2 : Int) - (52 : Nat)) (-1074) = powS c - upS c := by omega
    rw [e1, show (powS c - (powS c - (upS c : Int))).toNat = upS c by omega, show (powS c - (upS c : Int) - powS c).toNat = 0 by omega, cut_zero, Nat.shiftLeft_eq, show powS c - (upS c : Int) - -1074 = powS c - upS c + 1074 by omega]
    rw [Nat.min_eq_left (Nat.le_of_lt hlt)]
    unfold Ieee.Format.word
    by_cases h : 2147483648 ≤ c
    · rw [if_pos h, decide_eq_true h]
      rfl
    · rw [if_neg h, decide_eq_false h]
      rfl
/-- Its parts. -/
theorem wid_parts (c : Nat) (h : expS c < 255) : wid c < 18446744073709551616 ∧ expF (wid c) < 2047 ∧ decide (9223372036854775808 ≤ wid c) = decide (2147483648 ≤ c) ∧ (manS c = 0 → manF (wid c) = 0) ∧ (manS c ≠ 0 → manF (wid c) = manS c * 2 ^ upS c ∧ powF (wid c) = powS c - upS c) := by
  by_cases h0 : manS c = 0
  · have e := wid_zero c h0
    by_cases hs : 2147483648 ≤ c
    · rw [if_pos hs] at e
      rw [e]
      refine ⟨by decide, by decide, by rw [decide_eq_true hs]; decide, fun _ => by decide, fun h1 => absurd h0 h1⟩
    · rw [if_neg hs] at e
      rw [e]
      refine ⟨by decide, by decide, by rw [decide_eq_false hs]; decide, fun _ => by decide, fun h1 => absurd h0 h1⟩
  · obtain ⟨R, r1, r2, r3⟩ := wid_eq c h h0
    obtain ⟨l1, l2, l3⟩ := logS c h0
    obtain ⟨p1, p2⟩ := powS_bounds c h
    have hu : upS c ≤ 52 ∧ upS c + (manS c).log2 = 52 := by unfold upS; omega
    have hM1 : 4503599627370496 ≤ manS c * 2 ^ upS c := by
      have e : 2 ^ (manS c).log2 * 2 ^ upS c = 4503599627370496 := by rw [← Nat.pow_add, show (manS c).log2 + upS c = 52 by omega]
      rw [← e]
      exact Nat.mul_le_mul_right _ l2
    have hM2 : manS c * 2 ^ upS c < 9007199254740992 := by
      have e : 2 ^ ((manS c).log2 + 1) * 2 ^ upS c = 9007199254740992 := by rw [← Nat.pow_add, show (manS c).log2 + 1 + upS c = 53 by omega]
      rw [← e]
      exact Nat.mul_lt_mul_of_pos_right l3 (Nat.pow_pos (by decide))
    obtain ⟨Z, hZ⟩ : ∃ Z, Z = manS c * 2 ^ upS c := ⟨_, rfl⟩
    obtain ⟨a, ha⟩ : ∃ a, a = (powS c - upS c + 1074).toNat := ⟨_, rfl⟩
    rw [← hZ] at r2 hM1 hM2 ⊢
    rw [← ha] at r2
    have hmod : wid c % 9223372036854775808 = R := by
      rw [r3]
      split <;> omega
    have hx : expF (wid c) = a + 1 := by unfold expF; omega
    have hf : fracF (wid c) = Z - 4503599627370496 := by unfold fracF; omega
    refine ⟨by rw [r3]; split <;> omega, by omega, ?_, fun h1 => absurd h1 h0, fun _ => ?_⟩
    · rw [r3]
      by_cases hs : 2147483648 ≤ c
      · rw [if_pos hs, decide_eq_true hs, decide_eq_true (by omega)]
      · rw [if_neg hs, decide_eq_false hs, decide_eq_false (by omega)]
    · unfold manF powF
      rw [if_neg (by omega), if_neg (by omega), hx, hf]
      omega
theorem wid_run (c : Nat) (hc : c < 4294967296) (h : expS c < 255) : floatToFloatBits .f32 c .f64 = some (wid c) := by
  unfold floatToFloatBits
  rw [if_neg (by decide)]
  have e : FloatKind.f32.decode c = .number (decide (2147483648 ≤ c)) (manS c) (powS c) := readS_fin c hc h
  rw [e]
  have hw := wid_parts c h
  have e2 : FloatKind.f64.decode (wid c) = .number (decide (9223372036854775808 ≤ wid c)) (manF (wid c)) (powF (wid c)) := read_fin (wid c) hw.1 hw.2.1
  show (if (FloatKind.f64.decode (wid c)).isInfinity then none else some (wid c)) = _
  rw [e2]
  rfl
theorem cut_exact (neg : Bool) (m j : Nat) (hm : m ≠ 0) : Ieee.Toward.even.cut neg (m * 2 ^ j) j = m := by
  have h1 : 0 < 2 ^ j := Nat.pow_pos (by decide)
  have hlog : j ≤ (m * 2 ^ j).log2 + 2 := by
    have h2 : m * 2 ^ j ≠ 0 := Nat.mul_ne_zero hm (by omega)
    have h3 : j ≤ (m * 2 ^ j).log2 := (Nat.le_log2 h2).2 (Nat.le_mul_of_pos_left _ (Nat.pos_of_ne_zero hm))
    omega
  unfold Ieee.Toward.cut
  rw [Nat.min_eq_left hlog, Nat.shiftLeft_eq, Nat.one_mul]
  simp only [Nat.mul_div_cancel _ h1, Nat.mul_mod_left, Nat.mul_zero]
  have e1 : decide (2 ^ j < 0) = false := by simp
  have e2 : (2 ^ j == 0) = false := by
    rw [beq_eq_false_iff_ne]
    omega
  simp [e2]
set_option maxRecDepth 100000 in
/-- Back again. -/
theorem nar_run (c : Nat) (hc : c < 4294967296) (h : expS c < 255) : floatToFloatBits .f64 (wid c) .f32 = some c := by
  have hw := wid_parts c h
  unfold floatToFloatBits
  rw [if_neg (by decide)]
  have e2 : FloatKind.f64.decode (wid c) = .number (decide (9223372036854775808 ≤ wid c)) (manF (wid c)) (powF (wid c)) := read_fin (wid c) hw.1 hw.2.1
  rw [e2, hw.2.2.1]
  have key : Ieee.single.nearest (decide (2147483648 ≤ c)) (manF (wid c)) (powF (wid c)) = c := by
    by_cases h0 : manS c = 0
    · rw [hw.2.2.2.1 h0]
      have hz : c % 2147483648 = 0 := by
        unfold manS fracS expS at h0
        split at h0 <;> omega
      unfold Ieee.Format.nearest
      rw [if_pos rfl]
      unfold Ieee.Format.word
      by_cases hs : 2147483648 ≤ c
      · rw [decide_eq_true hs, if_pos rfl]
        show 2147483648 + 0 = c
        omega
      · rw [decide_eq_false hs, if_neg (by decide)]
        omega
    · obtain ⟨g1, g2⟩ := hw.2.2.2.2 h0
      obtain ⟨l1, l2, l3⟩ := logS c h0
      obtain ⟨p1, p2⟩ := powS_bounds c h
      have hu : upS c ≤ 52 ∧ upS c + (manS c).log2 = 52 := by unfold upS; omega
      have hM1 : 2 ^ 52 ≤ manS c * 2 ^ upS c := by
        have e : 2 ^ (manS c).log2 * 2 ^ upS c = 2 ^ 52 := by rw [← Nat.pow_add, show (manS c).log2 + upS c = 52 by omega]
        rw [← e]
        exact Nat.mul_le_mul_right _ l2
      have hM2 : manS c * 2 ^ upS c < 2 ^ 53 := by
        have e : 2 ^ ((manS c).log2 + 1) * 2 ^ upS c = 2 ^ 53 := by rw [← Nat.pow_add, show (manS c).log2 + 1 + upS c = 53 by omega]
        rw [← e]
        exact Nat.mul_lt_mul_of_pos_right l3 (Nat.pow_pos (by decide))
      have hne : manS c * 2 ^ upS c ≠ 0 := by
        have : (0 : Nat) < 2 ^ 52 := by decide
        omega
      have hlg : (manS c * 2 ^ upS c).log2 = 52 := by
        have a1 := (Nat.le_log2 hne).2 hM1
        have a2 := (Nat.log2_lt hne).2 hM2
        omega
      rw [g1, g2]
      unfold Ieee.Format.nearest
      rw [if_neg hne]
      simp only [show Ieee.single.fractionBits = 23 from rfl, show Ieee.single.leastPlace = -149 from rfl, show Ieee.single.binade = 8388608 from rfl, show Ieee.single.infRung = 2139095040 from rfl, hlg]
      have hnm : 23 ≤ (manS c).log2 ∨ powS c = -149 := by
        rcases normS c with h | h
        · exact .inl ((Nat.le_log2 h0).2 (by simpa using h))
        · exact .inr h
      have e1 : max (powS c - (upS c : Int) + (52 : Nat) - (23 : Nat)) (-149) = powS c := by omega
      rw [e1, show (powS c - (upS c : Int) - powS c).toNat = 0 by omega, show (powS c - (powS c - (upS c : Int))).toNat = upS c by omega, Nat.shiftLeft_zero, cut_exact _ _ _ h0]
      have hR : (powS c - -149).toNat * 8388608 + manS c = c % 2147483648 := by
        unfold manS powS fracS expS
        unfold expS at h
        split <;> omega
      rw [hR, Nat.min_eq_left (by unfold expS at h; omega)]
      unfold Ieee.Format.word
      by_cases hs : 2147483648 ≤ c
      · rw [decide_eq_true hs, if_pos rfl]
        show 2147483648 + c % 2147483648 = c
        omega
      · rw [decide_eq_false hs, if_neg (by decide)]
        omega
  have e3 : FloatKind.f32.decode c = .number (decide (2147483648 ≤ c)) (manS c) (powS c) := readS_fin c hc h
  show (if (FloatKind.f32.decode (Ieee.single.nearest (decide (2147483648 ≤ c)) (manF (wid c)) (powF (wid c)))).isInfinity then none else some (Ieee.single.nearest (decide (2147483648 ≤ c)) (manF (wid c)) (powF (wid c)))) = _
  rw [key, e3]
  rfl
end Go.Proofs.YtnfddblpenninaaDoor
