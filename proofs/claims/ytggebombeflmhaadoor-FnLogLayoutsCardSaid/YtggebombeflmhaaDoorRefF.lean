/- The reference's LLaid: what its walk takes is there (no walk). -/
import Derived.Test.YtggebombeflmhaaDoorRefD
namespace Go.Proofs.YtggebombeflmhaaDoor
open Go.RowKit

theorem week_at : ∀ (j : Nat), j < 7 → ∀ h, (#[.string ⟨#[84, 104, 117]⟩, .string ⟨#[70, 114, 105]⟩, .string ⟨#[83, 97, 116]⟩, .string ⟨#[83, 117, 110]⟩, .string ⟨#[77, 111, 110]⟩, .string ⟨#[84, 117, 101]⟩, .string ⟨#[87, 101, 100]⟩] : Array Value)[j]'h = .string ⟨(wk3 ((j + 4) % 7)).toArray⟩ := by
  intro j hj
  rcases (by omega : j = 0 ∨ j = 1 ∨ j = 2 ∨ j = 3 ∨ j = 4 ∨ j = 5 ∨ j = 6) with rfl | rfl | rfl | rfl | rfl | rfl | rfl <;> exact fun _ => rfl
theorem mon_at : ∀ (i : Nat), i < 12 → ∀ h, (#[.string ⟨#[74, 97, 110]⟩, .string ⟨#[70, 101, 98]⟩, .string ⟨#[77, 97, 114]⟩, .string ⟨#[65, 112, 114]⟩, .string ⟨#[77, 97, 121]⟩, .string ⟨#[74, 117, 110]⟩, .string ⟨#[74, 117, 108]⟩, .string ⟨#[65, 117, 103]⟩, .string ⟨#[83, 101, 112]⟩, .string ⟨#[79, 99, 116]⟩, .string ⟨#[78, 111, 118]⟩, .string ⟨#[68, 101, 99]⟩] : Array Value)[i]'h = .string ⟨(mo3 (i + 1)).toArray⟩ := by
  intro i hi
  rcases (by omega : i = 0 ∨ i = 1 ∨ i = 2 ∨ i = 3 ∨ i = 4 ∨ i = 5 ∨ i = 6 ∨ i = 7 ∨ i = 8 ∨ i = 9 ∨ i = 10 ∨ i = 11) with rfl | rfl | rfl | rfl | rfl | rfl | rfl | rfl | rfl | rfl | rfl | rfl <;> exact fun _ => rfl
theorem dg_dg (n : Nat) (h : n < 100) : (((dg (n / 10)).toNat : Int) - 48) * 10 + (((dg n).toNat : Int) - 48) = n := by
  rw [dg_toNat, dg_toNat]
  omega
theorem under_parts {D : Nat} (h0 : 1 ≤ D) (h1 : D ≤ 31) (N s F : Nat) (mm : Int) (hD : D = civD N) : (((dg (D / 10)).toNat : Int) = 48 → 32 :: [dg D] = shown N s F mm .under) ∧ (¬ ((dg (D / 10)).toNat : Int) = 48 → d2 D = shown N s F mm .under) := by
  rw [dg_toNat]
  show (_ → _ = (if civD N < 10 then [32] else []) ++ digs (civD N)) ∧ (_ → _ = (if civD N < 10 then [32] else []) ++ digs (civD N))
  rw [← hD]
  constructor
  · intro h
    rw [if_pos (by omega), digs_one (by omega)]
    rfl
  · intro h
    rw [if_neg (by omega), digs_ten (by omega), digs_one (by omega)]
    rfl
theorem yr_tail (Y : Nat) : [dg (Y / 10), dg Y] = d2 (Y % 100) := by
  unfold d2 dg
  rw [show Y % 100 / 10 % 10 = Y / 10 % 10 by omega, show Y % 100 % 10 = Y % 10 by omega]
theorem d9_zero : d9 0 = zeros 9 := by
  unfold d9
  rw [digs_one (by omega)]
  rfl
theorem hour12 (h : Nat) : (((h : Int) + 11) % 12 + 1).toNat = hr12 h := by
  unfold hr12
  split <;> omega
theorem stamp_slice (l : List UInt8) (x : List UInt8) (hl : l.length = 19) : ((l ++ (46 :: x) ++ [90]).drop 20).take (x.length) = x := by
  rw [List.append_assoc, List.drop_append, hl, List.drop_of_length_le (by omega), List.nil_append]
  show ((x ++ [90]).drop 0).take x.length = x
  simp
theorem trim_there {F : Nat} (hF : F < 1000000000) (h0 : 0 < F) : ∃ x, Frac F x ∧ 0 < x.length ∧ x.length ≤ 9 ∧ x.getLast? ≠ some 48 := by
  have : ∀ (n : Nat) (x : List UInt8), x.length ≤ n → Frac F x → ∃ x, Frac F x ∧ 0 < x.length ∧ x.length ≤ 9 ∧ x.getLast? ≠ some 48 := by
    intro n
    induction n with
    | zero =>
      intro x hx hf
      obtain ⟨k, hk⟩ := hf
      exact absurd (List.length_eq_zero_iff.1 (by omega)) (d9_cut h0 hk)
    | succ n ih =>
      intro x hx hf
      have hp : 0 < x.length := by
        obtain ⟨k, hk⟩ := hf
        exact List.length_pos_iff.2 (d9_cut h0 hk)
      by_cases hl : x.getLast? = some 48
      · exact ih x.dropLast (by simp; omega) (hf.drop hl)
      · refine ⟨x, hf, hp, ?_, hl⟩
        obtain ⟨k, hk⟩ := hf
        have := d9_len hF
        rw [hk, List.length_append] at this
        omega
  exact this 9 (d9 F) (by rw [d9_len hF]; exact Nat.le_refl 9) (frac_all rfl)
end Go.Proofs.YtggebombeflmhaaDoor
