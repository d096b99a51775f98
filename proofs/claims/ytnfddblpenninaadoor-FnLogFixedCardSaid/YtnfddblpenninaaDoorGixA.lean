/- Unrounded numbers: rounded, they are the nearest ones; what a text's check asks of a nearest number. (Plain law.) -/
import Derived.Test.YtnfddblpenninaaDoorFixZ
namespace Go.Proofs.YtnfddblpenninaaDoor
open Go.RowKit

theorem or_one (x : Nat) : x ||| 1 = x / 2 * 2 + 1 := by
  have h : x ||| 1 = (x / 2 * 2) ||| 1 := by
    apply Nat.eq_of_testBit_eq
    intro i
    rw [Nat.testBit_or, Nat.testBit_or]
    cases i with
    | zero => simp
    | succ i => rw [Nat.testBit_succ, Nat.testBit_succ, Nat.testBit_succ, Nat.mul_div_cancel _ (by decide : 0 < 2)]
  rw [h, Nat.mul_comm]
  exact (Nat.two_pow_add_eq_or_of_lt (i := 1) (b := 1) (by decide) (x / 2)).symm
/-- Four times num / den, its last bit set where something is left. -/
def unr (num den : Nat) : Nat := 4 * num / den ||| (if 4 * num % den ≠ 0 then 1 else 0)
theorem unr_eq (num den : Nat) : unr num den = if 4 * num % den ≠ 0 then 4 * num / den / 2 * 2 + 1 else 4 * num / den := by
  unfold unr
  split
  · rw [or_one]
  · rw [Nat.or_zero]
theorem round_half (num den : Nat) (hd : 0 < den) : Half (roundU (unr num den)) num den := by
  have h1 := Nat.div_add_mod (4 * num) den
  have h2 := Nat.mod_lt (4 * num) hd
  obtain ⟨q, hq⟩ : ∃ q, q = 4 * num / den := ⟨_, rfl⟩
  obtain ⟨r, hr⟩ : ∃ r, r = 4 * num % den := ⟨_, rfl⟩
  rw [unr_eq]
  rw [← hq, ← hr] at h1 ⊢
  rw [← hr] at h2
  obtain ⟨a, b, rfl, hb⟩ : ∃ a b, q = 4 * a + b ∧ b < 4 := ⟨q / 4, q % 4, by omega, by omega⟩
  obtain ⟨E, hE⟩ : ∃ E, E = a * den := ⟨_, rfl⟩
  have e0 : den * (4 * a + b) = 4 * E + b * den := by rw [hE, Nat.mul_comm, Nat.add_mul, Nat.mul_assoc]
  rw [e0] at h1
  have ea : ∀ x, x = a → (2 * x + 1) * den = 2 * E + den := fun x hx => by rw [hx, hE, Nat.add_mul, Nat.one_mul, Nat.mul_assoc]
  have ea1 : a = 0 ∨ (2 * a - 1) * den + den = 2 * E := by
    rcases Nat.eq_zero_or_pos a with h | h
    · exact .inl h
    · right
      rw [← Nat.succ_mul, show (2 * a - 1).succ = 2 * a by omega, Nat.mul_assoc, hE]
  have eb : (2 * (a + 1) + 1) * den = 2 * E + 3 * den := by rw [show 2 * (a + 1) + 1 = 2 * a + 3 by omega, Nat.add_mul, Nat.mul_assoc, hE]
  have eb1 : (2 * (a + 1) - 1) * den = 2 * E + den := by rw [show 2 * (a + 1) - 1 = 2 * a + 1 by omega]; exact ea a rfl
  have lo : roundU (if r ≠ 0 then (4 * a + b) / 2 * 2 + 1 else 4 * a + b) = a ∨ roundU (if r ≠ 0 then (4 * a + b) / 2 * 2 + 1 else 4 * a + b) = a + 1 := by
    unfold roundU
    split <;> omega
  have hcase : b = 0 ∨ b = 1 ∨ b = 2 ∨ b = 3 := by omega
  rcases lo with h | h
  · rw [h]
    unfold Half
    rw [ea a rfl]
    unfold roundU at h
    rcases hcase with rfl | rfl | rfl | rfl
    all_goals
      rcases ea1 with e | e
      · refine ⟨.inl e, ?_⟩
        split at h <;> omega
      · constructor
        · right
          split at h <;> omega
        · split at h <;> omega
  · rw [h]
    unfold Half
    rw [eb, eb1]
    unfold roundU at h
    rcases hcase with rfl | rfl | rfl | rfl
    all_goals
      constructor
      · right
        split at h <;> omega
      · split at h <;> omega
theorem unr_div (num den : Nat) (hd : 0 < den) : unr num (10 * den) = divU (unr num den) 10 := by
  have h1 := Nat.div_add_mod (4 * num) den
  have h2 := Nat.mod_lt (4 * num) hd
  have e1 : 4 * num / (10 * den) = 4 * num / den / 10 := by rw [Nat.mul_comm 10 den, Nat.div_div_eq_div_mul]
  have e2 : 4 * num % (10 * den) = den * (4 * num / den % 10) + 4 * num % den := by
    have h3 := Nat.mod_mul_right_div_self (4 * num) den 10
    have h4 : 4 * num % (den * 10) % den = 4 * num % den := Nat.mod_mul_right_mod (4 * num) den 10
    rw [Nat.mul_comm 10 den, ← h3, ← h4]
    exact (Nat.div_add_mod _ _).symm
  rw [unr_eq, unr_eq num den, e1, e2]
  obtain ⟨q, hq⟩ : ∃ q, q = 4 * num / den := ⟨_, rfl⟩
  obtain ⟨r, hr⟩ : ∃ r, r = 4 * num % den := ⟨_, rfl⟩
  rw [← hq, ← hr]
  have hz : (den * (q % 10) + r = 0) ↔ q % 10 = 0 ∧ r = 0 := by
    constructor
    · intro h
      have h5 : den * (q % 10) = 0 := by omega
      rcases Nat.mul_eq_zero.1 h5 with h | h
      · omega
      · exact ⟨h, by omega⟩
    · rintro ⟨h, h'⟩
      rw [h, h', Nat.mul_zero]
  unfold divU
  by_cases hr0 : r = 0
  · have i1 : (if r ≠ 0 then q / 2 * 2 + 1 else q) = q := if_neg (fun h => h hr0)
    rw [i1]
    by_cases hq0 : q % 10 = 0
    · rw [if_neg (by rw [Classical.not_not, hz]; exact ⟨hq0, hr0⟩), if_neg (by omega), show q % 2 = 0 by omega, Nat.or_zero, Nat.or_zero]
    · rw [if_pos (by rw [ne_eq, hz]; omega), if_pos hq0]
      rcases Nat.mod_two_eq_zero_or_one q with h | h
      · rw [h, Nat.or_zero, or_one]
      · rw [h, or_one, or_one]
        omega
  · have i1 : (if r ≠ 0 then q / 2 * 2 + 1 else q) = q / 2 * 2 + 1 := if_pos hr0
    rw [i1, if_pos (by rw [ne_eq, hz]; omega), show (q / 2 * 2 + 1) % 2 = 1 by omega, or_one]
    rw [if_pos (by omega), or_one]
    omega
/-- What 'uscale' computes where nothing is left of the power's low word and the number is even. -/
theorem uscale_exact (x hi s : Nat) (hx : x % 2 = 0) : uscaleN x hi 0 s = unr (x * hi) (2 ^ (66 + s)) := by
  obtain ⟨P, hP⟩ : ∃ P, P = x * hi := ⟨_, rfl⟩
  have hev : P % 2 = 0 := by rw [hP, Nat.mul_mod, hx, Nat.zero_mul, Nat.zero_mod]
  have e66 : 2 ^ (66 + s) = 4 * (18446744073709551616 * 2 ^ s) := by rw [Nat.pow_add, ← Nat.mul_assoc]
  have h2s : 0 < 2 ^ s := Nat.pow_pos (by decide)
  unfold unr uscaleN
  rw [← hP, e66, Nat.mul_div_mul_left _ _ (by decide : 0 < 4), ← Nat.div_div_eq_div_mul, Nat.mul_mod_mul_left, Nat.mod_mul, Nat.mul_zero, Nat.zero_div]
  obtain ⟨h, hh⟩ : ∃ h, h = P / 18446744073709551616 := ⟨_, rfl⟩
  obtain ⟨m, hm⟩ : ∃ m, m = P % 18446744073709551616 := ⟨_, rfl⟩
  have hm2 : m % 2 = 0 := by omega
  rw [← hh, ← hm]
  by_cases h0 : h % 2 ^ s ≠ 0
  · rw [if_pos h0, if_pos (by omega)]
  · rw [if_neg h0, if_neg (by omega)]
    congr 1
    rw [Classical.not_not] at h0
    rw [h0, Nat.mul_zero, Nat.add_zero, Nat.sub_zero]
    by_cases hm0 : m = 0
    · rw [if_neg (by omega), if_neg (by omega)]
    · rw [if_pos (by omega), if_pos (by omega)]
theorem cmp_scale (a b c : Nat) (hc : 0 < c) : cmpN (a * c) (b * c) = cmpN a b := by
  unfold cmpN
  simp only [Nat.mul_lt_mul_right hc, Nat.mul_left_inj (Nat.ne_of_gt hc)]
/-- A nearest number passes the check. -/
theorem right_of_half (D prec m num den : Nat) (k : Int) (h : Half D num den) (hd : 0 < den) (he : num * 2 ^ (-k).toNat = m * 10 ^ prec * 2 ^ k.toNat * den) : Right D prec m k := by
  have key : ∀ X, sideN X (-(prec : Int)) m (k + 1) = cmpN (X * den) (2 * num) := fun X => by
    unfold sideN
    rw [show (-(prec : Int)).toNat = 0 by omega, show (-(-(prec : Int))).toNat = prec by omega, Nat.pow_zero, Nat.mul_one]
    obtain ⟨a, ha⟩ : ∃ a, a = 2 ^ (-k).toNat := ⟨_, rfl⟩
    obtain ⟨b, hb⟩ : ∃ b, b = 2 ^ k.toNat := ⟨_, rfl⟩
    obtain ⟨a', ha'⟩ : ∃ a', a' = 2 ^ (-(k + 1)).toNat := ⟨_, rfl⟩
    obtain ⟨b', hb'⟩ : ∃ b', b' = 2 ^ (k + 1).toNat := ⟨_, rfl⟩
    have ha0 : 0 < a := by rw [ha]; exact Nat.pow_pos (by decide)
    have ha0' : 0 < a' := by rw [ha']; exact Nat.pow_pos (by decide)
    have hrel : 2 * b * a' = b' * a := by
      rw [ha, hb, ha', hb']
      rcases Int.lt_or_le k 0 with hk | hk
      · rw [show k.toNat = 0 by omega, show (k + 1).toNat = 0 by omega, show (-k).toNat = (-(k + 1)).toNat + 1 by omega, Nat.pow_succ]
        omega
      · rw [show (-k).toNat = 0 by omega, show (-(k + 1)).toNat = 0 by omega, show (k + 1).toNat = k.toNat + 1 by omega, Nat.pow_succ]
        omega
    rw [← ha, ← hb] at he
    rw [← ha', ← hb', ← cmp_scale (X * a') (m * 10 ^ prec * b') (a * den) (Nat.mul_pos ha0 hd), ← cmp_scale (X * den) (2 * num) (a * a') (Nat.mul_pos ha0 ha0')]
    congr 1
    · simp only [Nat.mul_comm, Nat.mul_left_comm]
    · have h1 : 2 * num * (a * a') = 2 * (num * a) * a' := by simp only [Nat.mul_assoc]
      have h2 : m * 10 ^ prec * b' * (a * den) = m * 10 ^ prec * den * (b' * a) := by simp only [Nat.mul_assoc, Nat.mul_comm, Nat.mul_left_comm]
      rw [h1, h2, he, ← hrel]
      simp only [Nat.mul_assoc, Nat.mul_comm, Nat.mul_left_comm]
  unfold Right
  rw [key, key]
  obtain ⟨h1, h2⟩ := h
  constructor
  · rcases h1 with h | h | ⟨h, he⟩
    · exact .inl h
    · by_cases h0 : D = 0
      · exact .inl h0
      · exact .inr (.inl ⟨h0, cmp_lt h⟩)
    · by_cases h0 : D = 0
      · exact .inl h0
      · exact .inr (.inr ⟨h0, cmp_eq h, he⟩)
  · rcases h2 with h | ⟨h, he⟩
    · exact .inl (cmp_gt h)
    · exact .inr ⟨cmp_eq h.symm, he⟩
end Go.Proofs.YtnfddblpenninaaDoor
