/- A decimal rounded: to the nearest, ties to even. -/
import Derived.Test.YtnfddblpenninaaDoorFixX
import Derived.BigRegion
namespace Go.Proofs.YtnfddblpenninaaDoor
open Go.RowKit

/-- D is the whole number nearest to num / den, the even one of two. -/
def Half (D num den : Nat) : Prop :=
  (D = 0 ∨ (2 * D - 1) * den < 2 * num ∨ ((2 * D - 1) * den = 2 * num ∧ D % 2 = 0)) ∧ (2 * num < (2 * D + 1) * den ∨ (2 * num = (2 * D + 1) * den ∧ D % 2 = 0))
theorem half_self (D : Nat) : Half D D 1 := ⟨by omega, by omega⟩
theorem half_down (P R T : Nat) (hT : 0 < T) (h : 2 * R < T ∨ (2 * R = T ∧ P % 2 = 0)) : Half P (P * T + R) T := by
  have h1 : (2 * P + 1) * T = 2 * (P * T) + T := by rw [Nat.add_mul, Nat.one_mul, Nat.mul_assoc]
  have h2 : P = 0 ∨ (2 * P - 1) * T + T = 2 * (P * T) := by
    rcases Nat.eq_zero_or_pos P with h | h
    · exact .inl h
    · right
      rw [← Nat.succ_mul, show (2 * P - 1).succ = 2 * P by omega, Nat.mul_assoc]
  constructor
  · rcases h2 with h2 | h2
    · exact .inl h2
    · right; left
      omega
  · rw [h1]
    omega
theorem half_up (P R T : Nat) (hR : R < T) (h : T < 2 * R ∨ (2 * R = T ∧ P % 2 ≠ 0)) : Half (P + 1) (P * T + R) T := by
  have h1 : (2 * (P + 1) + 1) * T = 2 * (P * T) + 3 * T := by rw [show 2 * (P + 1) + 1 = 2 * P + 3 by omega, Nat.add_mul, Nat.mul_assoc]
  have h2 : (2 * (P + 1) - 1) * T = 2 * (P * T) + T := by rw [show 2 * (P + 1) - 1 = 2 * P + 1 by omega, Nat.add_mul, Nat.one_mul, Nat.mul_assoc]
  constructor
  · right
    rw [h2]
    omega
  · rw [h1]
    omega
/-- Whether digits are rounded up at r. -/
def upB (d : Nat → UInt8) (nd r : Nat) : Bool := if (d r).toNat = 53 ∧ r + 1 = nd then decide (((d (r - 1)).toNat - 48) % 2 ≠ 0) else decide (53 ≤ (d r).toNat)
theorem up_fact (d : Nat → UInt8) (nd r : Nat) (hr : r < nd) (hr0 : 0 < r) (hd : ∀ i, i < nd → 48 ≤ (d i).toNat ∧ (d i).toNat ≤ 57) (hl : (d (nd - 1)).toNat ≠ 48) :
    sufN d 0 nd = sufN d 0 r * 10 ^ (nd - r) + sufN d r (nd - r) ∧ sufN d r (nd - r) < 10 ^ (nd - r) ∧
    (upB d nd r = false → 2 * sufN d r (nd - r) < 10 ^ (nd - r) ∨ (2 * sufN d r (nd - r) = 10 ^ (nd - r) ∧ sufN d 0 r % 2 = 0)) ∧
    (upB d nd r = true → 10 ^ (nd - r) < 2 * sufN d r (nd - r) ∨ (2 * sufN d r (nd - r) = 10 ^ (nd - r) ∧ sufN d 0 r % 2 ≠ 0)) := by
  have hs := sufN_split d r (nd - r) 0
  rw [show r + (nd - r) = nd by omega, Nat.zero_add] at hs
  have hlt := sufN_lt d (nd - r) r fun i _ h => (hd i (by omega)).2
  refine ⟨hs, hlt, ?_⟩
  obtain ⟨s, hs1⟩ : ∃ s, nd - r = s + 1 := ⟨nd - r - 1, by omega⟩
  have hpar : sufN d 0 r % 2 = ((d (r - 1)).toNat - 48) % 2 := by
    obtain ⟨q, rfl⟩ : ∃ q, r = q + 1 := ⟨r - 1, by omega⟩
    rw [sufN_snoc, Nat.zero_add, Nat.add_sub_cancel]
    omega
  have hrest := sufN_lt d s (r + 1) fun i _ h => (hd i (by omega)).2
  have hdr := hd r hr
  rw [hs1, sufN, Nat.pow_succ]
  obtain ⟨c, hc⟩ : ∃ c, (d r).toNat = 48 + c := ⟨(d r).toNat - 48, by omega⟩
  obtain ⟨R, hR⟩ : ∃ R, R = sufN d (r + 1) s := ⟨_, rfl⟩
  obtain ⟨T, hT⟩ : ∃ T, T = 10 ^ s := ⟨_, rfl⟩
  have hT0 : 0 < T := by rw [hT]; exact Nat.pow_pos (by decide)
  rw [← hR, ← hT] at hrest
  rw [← hR, ← hT, hc, Nat.add_sub_cancel_left]
  unfold upB
  by_cases hcase : (d r).toNat = 53 ∧ r + 1 = nd
  · rw [if_pos hcase]
    have hc5 : c = 5 := by omega
    have hs0 : s = 0 := by omega
    have hR0 : R = 0 := by rw [hR, hs0, sufN]
    have hT1 : T = 1 := by rw [hT, hs0, Nat.pow_zero]
    subst hc5 hR0 hT1
    rw [← hpar]
    constructor
    · intro h
      right
      have := of_decide_eq_false h
      omega
    · intro h
      right
      have := of_decide_eq_true h
      omega
  · rw [if_neg hcase]
    constructor
    · intro h
      have h5 := of_decide_eq_false h
      left
      have hc4 : c ≤ 4 := by omega
      have : c * T ≤ 4 * T := Nat.mul_le_mul_right _ hc4
      omega
    · intro h
      have h5 := of_decide_eq_true h
      left
      by_cases hc5 : c = 5
      · have hne : r + 1 ≠ nd := fun he => hcase ⟨by omega, he⟩
        have hR0 : 0 < R := by
          rw [hR]
          obtain ⟨q, hq⟩ : ∃ q, s = q + 1 := ⟨s - 1, by omega⟩
          rw [hq]
          refine sufN_pos d q (r + 1) ?_
          rw [show r + 1 + q = nd - 1 by omega]
          have := (hd (nd - 1) (by omega)).1
          omega
        subst hc5
        omega
      · have : 6 * T ≤ c * T := Nat.mul_le_mul_right _ (by omega)
        omega

set_option maxRecDepth 100000 in
set_option maxHeartbeats 4000000 in
theorem should_walk (a nd r : Nat) (d : Nat → UInt8) (dp : Int) (w : World) (h : Dec w a d nd dp) (hnd : nd ≤ 800) (hr : r < nd) (hr0 : 0 < r) (hd : ∀ i, i < nd → 48 ≤ (d i).toNat ∧ (d i).toNat ≤ 57) :
    Calls Tryd.prog 90 #[.pointer (some ⟨a, 0, none⟩), .int .i64 (r : Int)] w fun e w' => e = .returned (.bool (upB d nd r)) ∧ w = w' := by
  have hc := h.cnt
  have ht := h.tr
  have h1 := h.dig r (by omega)
  have h2 := h.dig (r - 1) (by omega)
  have b1 := hd r hr
  have b2 := hd (r - 1) (by omega)
  have hi : (r : Int) - 1 = ((r - 1 : Nat) : Int) := by omega
  obtain ⟨x, hx⟩ : ∃ x, x = (d r).toNat := ⟨_, rfl⟩
  obtain ⟨y, hy⟩ : ∃ y, y = (d (r - 1)).toNat := ⟨_, rfl⟩
  obtain ⟨q, hq⟩ : ∃ q, q = r - 1 := ⟨_, rfl⟩
  have hub : upB d nd r = if x = 53 ∧ r + 1 = nd then decide ((y - 48) % 2 ≠ 0) else decide (53 ≤ x) := by rw [hx, hy]; rfl
  rw [← hx] at h1 b1
  rw [← hy, ← hq] at h2
  rw [← hy] at b2
  rw [← hq] at hi
  have HU := Lib.hid hub
  have HQ := Lib.hid hq
  clear hub hx hy hd h hq
  by_cases hx5 : x = 53
  · subst hx5
    by_cases hrn : r + 1 = nd
    · subst hrn
      have hub := HU.out
      rw [if_pos ⟨rfl, rfl⟩] at hub
      have HU2 := Lib.hid hub
      clear hub HU
      have hm : (((y : Int) - 48) % 2 != 0) = decide ((y - 48) % 2 ≠ 0) := by
        rw [Bool.eq_iff_iff]
        simp
        omega
      obtain ⟨z, hz⟩ : ∃ z, z = decide ((y - 48) % 2 ≠ 0) := ⟨_, rfl⟩
      rw [← hz] at hm HU2
      clear hz
      go_enter Tryd.func90, Tryd.ntmps90
      go_wp2_with fail
      go_returns
      exact ⟨by rw [HU2.out]; rfl, rfl⟩
    · have hub := HU.out
      rw [if_neg (by omega)] at hub
      have HU2 := Lib.hid hub
      have hq : ((r : Int) + 1 == (nd : Int)) = false := by simp; omega
      clear hub HU hrn
      go_enter Tryd.func90, Tryd.ntmps90
      go_wp2_with fail
      go_returns
      exact ⟨by rw [HU2.out]; rfl, rfl⟩
  · have hub := HU.out
    rw [if_neg (by omega)] at hub
    have HU2 := Lib.hid hub
    have hq : ((x : Int) == 53) = false := by simp; omega
    clear hub HU hx5
    go_enter Tryd.func90, Tryd.ntmps90
    go_wp2_with fail
    go_returns
    exact ⟨congrArg (fun b => Ending.returned (.bool b)) (by rw [HU2.out]; exact decide_eq_decide.2 (by omega)), rfl⟩
end Go.Proofs.YtnfddblpenninaaDoor
