/- A decimal times a power of two: how many digits come to it. -/
import Derived.Test.YtnfddblpenninaaDoorFixU
namespace Go.Proofs.YtnfddblpenninaaDoor
open Go.RowKit

def cutD (k : Nat) : Nat → UInt8 := fun i => (rowC k).2.getD i 48
def cutN (k : Nat) : Nat := (rowC k).2.length
theorem cut_facts : ∀ k : Fin 17, sufN (cutD (k.val + 1)) 0 (cutN (k.val + 1)) = 5 ^ (k.val + 1) ∧ (rowC (k.val + 1)).1 + cutN (k.val + 1) = k.val + 1 + 1 ∧ 1 ≤ cutN (k.val + 1) ∧ cutN (k.val + 1) ≤ k.val + 1 ∧
    10 ^ (cutN (k.val + 1) - 1) ≤ 5 ^ (k.val + 1) ∧ 5 ^ (k.val + 1) < 10 ^ cutN (k.val + 1) ∧ 48 < (cutD (k.val + 1) (cutN (k.val + 1) - 1)).toNat ∧
    (∀ t, t < cutN (k.val + 1) → 48 ≤ (cutD (k.val + 1) t).toNat ∧ (cutD (k.val + 1) t).toNat ≤ 57) := by decide +kernel
theorem sufN_lead (d : Nat → UInt8) (n : Nat) (h : Lead d n) : 10 ^ (n - 1) ≤ sufN d 0 n := by
  obtain ⟨h0, h1, h2⟩ := h
  obtain ⟨p, rfl⟩ : ∃ p, n = p + 1 := ⟨n - 1, by omega⟩
  have h3 := (h1 0 (by omega)).1
  rw [sufN, Nat.add_sub_cancel]
  have : 1 * 10 ^ p ≤ ((d 0).toNat - 48) * 10 ^ p := Nat.mul_le_mul_right _ (by omega)
  omega
/-- How many digits come to it. -/
theorem shift_digits (N n k m dl : Nat) (hN1 : 10 ^ (n - 1) ≤ N) (hN2 : N < 10 ^ n) (hn : 0 < n) (hdl : dl + m = k + 1) (hm1 : 1 ≤ m) (hmk : m ≤ k) (h5 : 10 ^ (m - 1) ≤ 5 ^ k) (h5' : 5 ^ k < 10 ^ m) :
    (N * 10 ^ m < 5 ^ k * 10 ^ n → 10 ^ (n + (dl - 1) - 1) ≤ N * 2 ^ k ∧ N * 2 ^ k < 10 ^ (n + (dl - 1))) ∧
    (¬ N * 10 ^ m < 5 ^ k * 10 ^ n → 10 ^ (n + dl - 1) ≤ N * 2 ^ k ∧ N * 2 ^ k < 10 ^ (n + dl)) := by
  have h10 : 5 ^ k * 2 ^ k = 10 ^ k := by rw [← Nat.mul_pow]
  have hp : ∀ j, 0 < 10 ^ j := fun j => Nat.pow_pos (by decide)
  have h2 : 0 < 2 ^ k := Nat.pow_pos (by decide)
  constructor
  · intro h
    constructor
    · -- from below
      refine Nat.le_of_mul_le_mul_right (c := 10 ^ m) ?_ (hp m)
      rw [← Nat.pow_add, show n + (dl - 1) - 1 + m = n - 1 + k by omega, Nat.pow_add, Nat.mul_assoc]
      exact Nat.mul_le_mul hN1 (by rw [← h10, Nat.mul_comm]; exact Nat.mul_le_mul_left _ (Nat.le_of_lt h5'))
    · refine Nat.lt_of_mul_lt_mul_right (a := 10 ^ m) ?_
      rw [← Nat.pow_add, show n + (dl - 1) + m = k + n by omega, Nat.pow_add, ← h10, Nat.mul_right_comm, Nat.mul_right_comm (5 ^ k)]
      exact Nat.mul_lt_mul_of_pos_right h h2
  · intro h
    constructor
    · refine Nat.le_of_mul_le_mul_right (c := 10 ^ m) ?_ (hp m)
      rw [← Nat.pow_add, show n + dl - 1 + m = k + n by omega, Nat.pow_add, ← h10, Nat.mul_right_comm N, Nat.mul_right_comm (5 ^ k)]
      exact Nat.mul_le_mul_right _ (by omega)
    · refine Nat.lt_of_mul_lt_mul_right (a := 10 ^ (m - 1)) ?_
      rw [← Nat.pow_add, show n + dl + (m - 1) = n + k by omega, Nat.pow_add, Nat.mul_assoc]
      refine Nat.lt_of_lt_of_le (Nat.mul_lt_mul_of_pos_right hN2 (Nat.mul_pos h2 (hp _))) (Nat.mul_le_mul_left _ ?_)
      rw [← h10, Nat.mul_comm]
      exact Nat.mul_le_mul_right _ h5
end Go.Proofs.YtnfddblpenninaaDoor
