/- How many digits a float with so many behind the point has at most; what comes of its scaling. (Plain law.) -/
import Derived.Test.YtnfddblpenninaaDoorGixB
namespace Go.Proofs.YtnfddblpenninaaDoor
open Go.RowKit

/-- The estimate of the digits. -/
def digsF (X : Int) (prec : Nat) : Int := if 0 ≤ X then 1 + (1 + X) * 78913 / 262144 + prec else 1 + prec - (-X) * 78913 / 262144
theorem few_zero (m prec : Nat) (X : Int) (hm : m < 9007199254740992) (hp : prec ≤ 12) (hd : digsF X prec ≤ 0) : Right 0 prec m (X - 52) := by
  have hX : X < 0 ∧ (prec : Int) + 1 ≤ (-X) * 78913 / 262144 := by
    unfold digsF at hd
    split at hd <;> omega
  obtain ⟨x, hx⟩ : ∃ x : Nat, -X = (x : Int) := ⟨(-X).toNat, by omega⟩
  rw [hx] at hX
  have key : 4 * 10 ^ prec ≤ 2 ^ x := by
    have h : ∀ n : Fin 13, ∀ x0 : Nat, x0 = (n.val + 1) * 262144 / 78913 → 4 * 10 ^ n.val ≤ 2 ^ x0 := by
      intro n x0 h
      subst h
      revert n
      decide +kernel
    exact Nat.le_trans (h ⟨prec, by omega⟩ _ rfl) (Nat.pow_le_pow_right (by decide) (by show (prec + 1) * 262144 / 78913 ≤ x; omega))
  refine right_of_half 0 prec m (m * 10 ^ prec) (2 ^ (52 + x)) (X - 52) ⟨.inl rfl, .inl ?_⟩ (Nat.pow_pos (by decide)) ?_
  · rw [Nat.pow_add]
    have h1 : 2 * (m * 10 ^ prec) < 2 * (9007199254740992 * 10 ^ prec) := Nat.mul_lt_mul_of_pos_left (Nat.mul_lt_mul_of_pos_right hm (Nat.pow_pos (by decide))) (by decide)
    have h2 : 2 ^ 52 * (4 * 10 ^ prec) ≤ 2 ^ 52 * 2 ^ x := Nat.mul_le_mul_left _ key
    omega
  · rw [show (-(X - 52)).toNat = 52 + x by omega, show (X - 52).toNat = 0 by omega, Nat.pow_zero, Nat.mul_one]
theorem two_ten : ∀ X : Fin 70, 2 ^ (X.val + 1) < 10 ^ ((1 + X.val) * 78913 / 262144 + 1) := by decide +kernel
set_option maxHeartbeats 2000000 in
/-- What fixedWidthFloat computes is right. -/
theorem width_plain (m prec n : Nat) (X : Int) (hm1 : 4503599627370496 ≤ m) (hm2 : m < 9007199254740992) (hX1 : -1022 ≤ X) (hX2 : X ≤ 69) (hp : prec ≤ 12) (hn : digsF X prec = (n : Int)) (hn1 : 1 ≤ n) (hn2 : n ≤ 18) :
    ∃ p s : Nat, (n : Int) - 1 - (X - 63 + 63) * 78913 / 262144 = (p : Int) ∧ (p = prec ∨ p = prec + 1) ∧ -(X - 63 + (p : Int) * 108853 / 32768 + 3) = (s : Int) ∧ s ≤ 63 ∧
      uscaleN (m * 2048) (rowP (348 + p)).1 (rowP (348 + p)).2 s < 9223372036854775808 ∧ (p = prec → uscaleN (m * 2048) (rowP (348 + p)).1 (rowP (348 + p)).2 s < 4 * 10 ^ n - 2) ∧
      roundU (fixU (uscaleN (m * 2048) (rowP (348 + p)).1 (rowP (348 + p)).2 s) p prec) < 10000000000000000000 ∧
      Right (roundU (fixU (uscaleN (m * 2048) (rowP (348 + p)).1 (rowP (348 + p)).2 s) p prec)) prec m (X - 52) := by
  obtain ⟨p, hpn⟩ : ∃ p : Nat, (n : Int) - 1 - X * 78913 / 262144 = (p : Int) := by
    refine ⟨((n : Int) - 1 - X * 78913 / 262144).toNat, ?_⟩
    unfold digsF at hn
    split at hn <;> omega
  have hpp : p = prec ∨ (p = prec + 1) := by
    unfold digsF at hn
    split at hn <;> omega
  have hp13 : p ≤ 13 := by omega
  obtain ⟨lp, hlp⟩ : ∃ lp, lp = p * 108853 / 32768 := ⟨_, rfl⟩
  obtain ⟨s, hs⟩ : ∃ s : Nat, -(X - 63 + (p : Int) * 108853 / 32768 + 3) = (s : Int) := ⟨(-(X - 63 + (p : Int) * 108853 / 32768 + 3)).toNat, by omega⟩
  have hs1 : 1 ≤ s ∧ s ≤ 63 := by omega
  have hrow : rowP (348 + p) = (10 ^ p * 2 ^ (63 - lp), 0) := by rw [hlp]; exact row_small ⟨p, by omega⟩
  have hhi : (rowP (348 + p)).1 < 18446744073709551616 := by
    have h : ∀ p : Fin 14, (rowP (348 + p.val)).1 < 18446744073709551616 := by decide +kernel
    exact h ⟨p, by omega⟩
  have hlp63 : lp ≤ 63 := by omega
  rw [hrow] at hhi
  obtain ⟨P, hP⟩ : ∃ P, P = m * 2048 * (10 ^ p * 2 ^ (63 - lp)) := ⟨_, rfl⟩
  obtain ⟨den, hden⟩ : ∃ den, den = 2 ^ (66 + s) := ⟨_, rfl⟩
  have hd0 : 0 < den := by rw [hden]; exact Nat.pow_pos (by decide)
  have hu : uscaleN (m * 2048) (rowP (348 + p)).1 (rowP (348 + p)).2 s = unr P den := by
    rw [hrow]
    show uscaleN (m * 2048) (10 ^ p * 2 ^ (63 - lp)) 0 s = _
    rw [uscale_exact _ _ _ (by omega), hP, hden]
  have hrel : P * 2 ^ (-(X - 52)).toNat = m * 10 ^ p * 2 ^ (X - 52).toNat * den := by
    rw [hP, hden, show (2048 : Nat) = 2 ^ 11 from rfl]
    have h1 : m * 2 ^ 11 * (10 ^ p * 2 ^ (63 - lp)) * 2 ^ (-(X - 52)).toNat = m * 10 ^ p * (2 ^ 11 * 2 ^ (63 - lp) * 2 ^ (-(X - 52)).toNat) := by
      simp only [Nat.mul_assoc, Nat.mul_comm, Nat.mul_left_comm]
    rw [h1, Nat.mul_assoc (m * 10 ^ p), ← Nat.pow_add, ← Nat.pow_add, ← Nat.pow_add]
    congr 2
    omega
  have hub : unr P den < 9223372036854775808 := by
    rw [unr_eq]
    have hPl : P < 18446744073709551616 * 18446744073709551616 := by
      rw [hP]
      exact Nat.lt_of_le_of_lt (Nat.mul_le_mul_right _ (by omega : m * 2048 ≤ 18446744073709551615)) (by omega)
    have h4 : 4 * P / den < 9223372036854775808 := by
      refine Nat.div_lt_of_lt_mul ?_
      have : 2 ^ 67 ≤ den := by rw [hden]; exact Nat.pow_le_pow_right (by decide) (by omega)
      have h5 : 2 ^ 67 * 9223372036854775808 ≤ den * 9223372036854775808 := Nat.mul_le_mul_right _ this
      omega
    split <;> omega
  have hxx : (X - 63 + 63) = X := by omega
  refine ⟨p, s, by rw [hxx]; exact hpn, hpp, hs, hs1.2, by rw [hu]; exact hub, ?_, ?_, ?_⟩
  · intro he
    subst he
    rw [hu]
    have hX0 : 0 ≤ X := by
      unfold digsF at hn
      split at hn <;> omega
    obtain ⟨x, rfl⟩ := Int.eq_ofNat_of_zero_le hX0
    have h10 := two_ten ⟨x, by omega⟩
    simp only at h10
    obtain ⟨L, hL⟩ : ∃ L, L = (1 + x) * 78913 / 262144 := ⟨_, rfl⟩
    rw [← hL] at h10
    have hnL : n = L + 1 + p := by
      unfold digsF at hn
      rw [if_pos (by omega)] at hn
      omega
    have hPd : P < (10 ^ n - 1) * den := by
      refine Nat.lt_of_mul_lt_mul_right (a := 2 ^ (-((x : Int) - 52)).toNat) ?_
      rw [hrel]
      have e1 : m * 2 ^ ((x : Int) - 52).toNat < 2 ^ (x + 1) * 2 ^ (-((x : Int) - 52)).toNat := by
        rw [← Nat.pow_add, show x + 1 + (-((x : Int) - 52)).toNat = 53 + ((x : Int) - 52).toNat by omega, Nat.pow_add 2 53]
        exact Nat.mul_lt_mul_of_pos_right hm2 (Nat.pow_pos (by decide))
      have e2 : (10 ^ (L + 1) - 1) * 10 ^ p ≤ 10 ^ n - 1 := by
        rw [hnL, Nat.pow_add 10 (L + 1) p, Nat.sub_mul, Nat.one_mul]
        have : 0 < 10 ^ p := Nat.pow_pos (by decide)
        omega
      have hp0 : 0 < 10 ^ p := Nat.pow_pos (by decide)
      calc m * 10 ^ p * 2 ^ ((x : Int) - 52).toNat * den = m * 2 ^ ((x : Int) - 52).toNat * (10 ^ p * den) := by simp only [Nat.mul_assoc, Nat.mul_comm, Nat.mul_left_comm]
        _ < 2 ^ (x + 1) * 2 ^ (-((x : Int) - 52)).toNat * (10 ^ p * den) := Nat.mul_lt_mul_of_pos_right e1 (Nat.mul_pos hp0 hd0)
        _ ≤ (10 ^ (L + 1) - 1) * 2 ^ (-((x : Int) - 52)).toNat * (10 ^ p * den) := Nat.mul_le_mul_right _ (Nat.mul_le_mul_right _ (by omega))
        _ = (10 ^ (L + 1) - 1) * 10 ^ p * (den * 2 ^ (-((x : Int) - 52)).toNat) := by simp only [Nat.mul_assoc, Nat.mul_comm, Nat.mul_left_comm]
        _ ≤ (10 ^ n - 1) * (den * 2 ^ (-((x : Int) - 52)).toNat) := Nat.mul_le_mul_right _ e2
        _ = (10 ^ n - 1) * den * 2 ^ (-((x : Int) - 52)).toNat := (Nat.mul_assoc _ _ _).symm
    have h4 : 4 * P / den < 4 * (10 ^ n - 1) := by
      refine Nat.div_lt_of_lt_mul ?_
      have : 4 * P < 4 * ((10 ^ n - 1) * den) := Nat.mul_lt_mul_of_pos_left hPd (by decide)
      rw [← Nat.mul_assoc] at this
      rw [Nat.mul_comm den]
      exact this
    have h10n : 10 ≤ 10 ^ n := by
      have := Nat.pow_le_pow_right (by decide : 0 < 10) hn1
      simpa using this
    rw [unr_eq]
    split <;> omega
  · rw [hu]
    have h1 : fixU (unr P den) p prec < 9223372036854775808 := by
      unfold fixU
      split
      · exact hub
      · exact divU_lt _ hub
    unfold roundU
    omega
  · rw [hu]
    rcases hpp with rfl | rfl
    · rw [fixU, if_pos rfl]
      exact right_of_half _ _ _ _ _ _ (round_half P den hd0) hd0 hrel
    · rw [fixU, if_neg (by omega), ← unr_div P den hd0]
      refine right_of_half _ _ _ _ _ _ (round_half P (10 * den) (by omega)) (by omega) ?_
      rw [hrel, Nat.pow_succ]
      simp only [Nat.mul_assoc, Nat.mul_comm, Nat.mul_left_comm]
theorem len53 (m : Nat) (hm1 : 4503599627370496 ≤ m) (hm2 : m < 9007199254740992) : Lib.bitLen m = 53 := by
  obtain ⟨h1, h2, h3⟩ := Lib.bitLenAux_bounds 64 m (Nat.lt_trans hm2 (by decide)) (by omega)
  have e : Lib.bitLenAux 64 m = Lib.bitLen m := rfl
  rw [e] at h1 h2 h3
  rcases Nat.lt_trichotomy (Lib.bitLen m) 53 with h | h | h
  · have := Nat.pow_le_pow_right (by decide : 0 < 2) (by omega : Lib.bitLen m ≤ 52)
    omega
  · exact h
  · have := Nat.pow_le_pow_right (by decide : 0 < 2) (by omega : 53 ≤ Lib.bitLen m - 1)
    omega
end Go.Proofs.YtnfddblpenninaaDoor
