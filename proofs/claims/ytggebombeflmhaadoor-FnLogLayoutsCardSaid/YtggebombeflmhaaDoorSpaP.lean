/- The text of a duration, and what is read of it: digits, fractions. No program in sight. -/
import Derived.WalkKit
namespace Go.Proofs.YtggebombeflmhaaDoor
open Go.RowKit

/-- A digit's byte. -/
def dg (n : Nat) : UInt8 := UInt8.ofNat (48 + n % 10)
theorem dg_toNat (n : Nat) : (dg n).toNat = 48 + n % 10 := by
  unfold dg
  have : 48 + n % 10 < 256 := by omega
  simp
  omega

/-- The digits of a number; none of 0. -/
def digs0 (v : Nat) : List UInt8 := if _h : v = 0 then [] else digs0 (v / 10) ++ [dg v]
termination_by v
decreasing_by omega
theorem digs0_zero : digs0 0 = [] := by unfold digs0; simp
theorem digs0_pos {v : Nat} (h : 0 < v) : digs0 v = digs0 (v / 10) ++ [dg v] := by
  conv => lhs; unfold digs0
  rw [dif_neg (by omega)]
def digs (v : Nat) : List UInt8 := if v = 0 then [48] else digs0 v

theorem digs0_len : ∀ (k v : Nat), v < 10 ^ k → (digs0 v).length ≤ k
  | 0, v, h => by
    have : v = 0 := by simpa using h
    subst this
    simp [digs0_zero]
  | k + 1, v, h => by
    rcases Nat.eq_zero_or_pos v with rfl | hp
    · simp [digs0_zero]
    · rw [digs0_pos hp]
      have := digs0_len k (v / 10) (by rw [Nat.pow_succ] at h; omega)
      simp
      omega
theorem digs_len {k v : Nat} (hk : 0 < k) (h : v < 10 ^ k) : (digs v).length ≤ k := by
  unfold digs
  split
  · simp; omega
  · exact digs0_len k v h
theorem digs_pos (v : Nat) : 0 < (digs v).length := by
  unfold digs
  split
  · simp
  · rw [digs0_pos (by omega)]
    simp

/-- The fraction's digits: prec low digits of a number, those behind which zeros stand left out. -/
def fr (v : Nat) : Nat → List UInt8
  | 0 => []
  | i + 1 => if fr v i = [] ∧ v / 10 ^ i % 10 = 0 then [] else dg (v / 10 ^ i) :: fr v i
theorem fr_len (v : Nat) : ∀ i, (fr v i).length ≤ i
  | 0 => by simp [fr]
  | i + 1 => by
    have := fr_len v i
    unfold fr
    split
    · simp
    · simp
      omega
/-- A point, if a fraction stands behind it. -/
def dot (l : List UInt8) : List UInt8 := if l = [] then [] else 46 :: l
theorem dot_len (l : List UInt8) : (dot l).length ≤ l.length + 1 := by unfold dot; split <;> simp

/-- What digits spell. -/
def numOf (l : List UInt8) : Nat := l.foldl (fun n c => n * 10 + (c.toNat - 48)) 0
theorem numOf_snoc (l : List UInt8) (c : UInt8) : numOf (l ++ [c]) = numOf l * 10 + (c.toNat - 48) := by simp [numOf]
theorem numOf_digs0 (v : Nat) : numOf (digs0 v) = v := by
  induction v using Nat.strongRecOn with
  | _ v ih =>
    rcases Nat.eq_zero_or_pos v with rfl | hp
    · simp [digs0_zero, numOf]
    · rw [digs0_pos hp, numOf_snoc, ih (v / 10) (by omega), dg_toNat]
      omega
theorem numOf_digs (v : Nat) : numOf (digs v) = v := by
  unfold digs
  split
  · subst_vars
    rfl
  · exact numOf_digs0 v

theorem foldl_num (l : List UInt8) (a : Nat) : l.foldl (fun n c => n * 10 + (c.toNat - 48)) a = a * 10 ^ l.length + numOf l := by
  induction l generalizing a with
  | nil => simp [numOf]
  | cons c l ih =>
    unfold numOf
    simp only [List.foldl_cons, List.length_cons]
    rw [ih, ih (0 * 10 + (c.toNat - 48)), Nat.pow_succ, Nat.zero_mul, Nat.zero_add, Nat.add_mul, Nat.mul_assoc, Nat.mul_comm 10 (10 ^ l.length), Nat.add_assoc]
theorem numOf_cons (c : UInt8) (l : List UInt8) : numOf (c :: l) = (c.toNat - 48) * 10 ^ l.length + numOf l := by
  conv => lhs; unfold numOf
  rw [List.foldl_cons, foldl_num, Nat.zero_mul, Nat.zero_add]

/-- What the fraction's digits say of the number: the zeros left out put back. -/
theorem numOf_fr (v : Nat) : ∀ i, numOf (fr v i) * 10 ^ (i - (fr v i).length) = v % 10 ^ i
  | 0 => by simp [fr, numOf, Nat.mod_one]
  | i + 1 => by
    have ih := numOf_fr v i
    have hl := fr_len v i
    have hm : v % 10 ^ (i + 1) = v % 10 ^ i + 10 ^ i * (v / 10 ^ i % 10) := by rw [Nat.pow_succ, Nat.mod_mul]
    unfold fr
    split
    · rename_i h
      rw [h.1] at ih
      rw [hm, h.2, ← ih]
      simp [numOf]
    · rw [numOf_cons, dg_toNat, hm, ← ih]
      have e : 48 + v / 10 ^ i % 10 - 48 = v / 10 ^ i % 10 := by omega
      have e2 : i + 1 - (dg (v / 10 ^ i) :: fr v i).length = i - (fr v i).length := by simp
      rw [e, e2, Nat.add_mul, Nat.mul_assoc, ← Nat.pow_add, show (fr v i).length + (i - (fr v i).length) = i by omega, Nat.mul_comm (v / 10 ^ i % 10), Nat.add_comm]

/-- All of a text are digits. -/
def AllDig (l : List UInt8) : Prop := ∀ c ∈ l, 48 ≤ c.toNat ∧ c.toNat ≤ 57
theorem dg_dig (n : Nat) : 48 ≤ (dg n).toNat ∧ (dg n).toNat ≤ 57 := by rw [dg_toNat]; omega
theorem digs0_dig (v : Nat) : AllDig (digs0 v) := by
  induction v using Nat.strongRecOn with
  | _ v ih =>
    rcases Nat.eq_zero_or_pos v with rfl | hp
    · simp [digs0_zero, AllDig]
    · rw [digs0_pos hp]
      intro c hc
      rcases List.mem_append.1 hc with h | h
      · exact ih (v / 10) (by omega) c h
      · simp at h
        subst h
        exact dg_dig v
theorem digs_dig (v : Nat) : AllDig (digs v) := by
  unfold digs
  split
  · intro c hc
    simp at hc
    subst hc
    decide
  · exact digs0_dig v
theorem fr_dig (v : Nat) : ∀ i, AllDig (fr v i)
  | 0 => by simp [fr, AllDig]
  | i + 1 => by
    unfold fr
    split
    · simp [AllDig]
    · intro c hc
      rcases List.mem_cons.1 hc with rfl | h
      · exact dg_dig _
      · exact fr_dig v i c h

end Go.Proofs.YtggebombeflmhaaDoor
