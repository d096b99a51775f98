/- The shortest digits of a float, whole. -/
import Derived.Test.YtnfddblpenninaaDoorShoF
import Derived.Test.YtnfddblpenninaaDoorShoG
import Derived.Test.YtnfddblpenninaaDoorShoH
import Derived.Test.YtnfddblpenninaaDoorMgM
namespace Go.Proofs.YtnfddblpenninaaDoor
open Go.RowKit

/-- As few digits as may be: no other multiple of ten times the last digit's place lies near the float. -/
def Few (mant : Nat) (k least : Int) (top d : Nat) (P : Int) : Prop := ∃ (p j : Int) (lo hi : Nat), ((-348 ≤ p ∧ p ≤ 347) ∧ (P = -p ∨ P = 1 - p)) ∧
  ((mant = top ∧ least < k ∧ lo = 4 * mant - 1 ∧ hi = 4 * mant + 2 ∧ j = k - 2) ∨ (¬(mant = top ∧ least < k) ∧ lo = 2 * mant - 1 ∧ hi = 2 * mant + 1 ∧ j = k - 1)) ∧
  ∀ c, Inside (10 * c) lo hi (numA j p) (denB j p) (mant % 2) → d = c ∧ P = 1 - p
theorem few_of {p e j k least : Int} {m mn mx odd lo hi i s mant top : Nat} (h : ShortOk p e m mn mx odd lo hi (numA j p) (denB j p) i s) (ho : odd = mant % 2)
    (hw : (mant = top ∧ least < k ∧ lo = 4 * mant - 1 ∧ hi = 4 * mant + 2 ∧ j = k - 2) ∨ (¬(mant = top ∧ least < k) ∧ lo = 2 * mant - 1 ∧ hi = 2 * mant + 1 ∧ j = k - 1)) :
    Few mant k least top (shortD (uscaleN mn (rowP i).1 (rowP i).2 s) (uscaleN mx (rowP i).1 (rowP i).2 s) (uscaleN m (rowP i).1 (rowP i).2 s) odd)
      ((shortTen (uscaleN mn (rowP i).1 (rowP i).2 s) (uscaleN mx (rowP i).1 (rowP i).2 s) odd : Int) - p) := by
  refine ⟨p, j, lo, hi, ⟨by have h1 := h.fp; have h2 := h.fi; omega, ?_⟩, hw, fun c hc => ?_⟩
  · unfold shortTen
    split
    · right; simp
    · left; simp
  · rw [← ho] at hc
    obtain ⟨h1, h2⟩ := h.few c hc
    refine ⟨h1, ?_⟩
    rw [h2]; simp
set_option maxRecDepth 100000 in
theorem short_any67 (mant z : Nat) (k : Int) (w : World) (hG : Glob w) (hm0 : 1 ≤ mant) (hm53 : mant < 9007199254740992) (hk1 : -1074 ≤ k) (hk2 : k ≤ 971) (hz1 : 9223372036854775808 ≤ mant * 2 ^ z) (hz2 : mant * 2 ^ z < 18446744073709551616)
    (hz : z = 11 ∨ 11 < z ∧ k = -1074) :
    Calls Tryd.prog 67 #[.int .u64 ((mant * 2 ^ z : Nat) : Int), .int .i64 (k - z)] w fun e' w' =>
      ∃ (d : Nat) (P : Int), e' = .returned (.tuple #[.int .u64 (d : Int), .int .i64 P]) ∧ (1 ≤ d ∧ d < 100000000000000000 ∧ Few mant k (-1074) 4503599627370496 d P) ∧ Below w.heap.size w w' := by
  by_cases hA : mant = 4503599627370496 ∧ -1074 < k
  · obtain ⟨hA1, hA2⟩ := hA
    obtain rfl : z = 11 := by omega
    obtain ⟨i, s, h⟩ := short_okA mant 11 k (by omega) (by omega) (by omega) hk1 hk2 hz1 hz2 (by omega)
    refine (short67A _ _ (p10S k) _ _ 0 i s _ _ _ w hG hz2 hz1 h.fmx (by omega) (by omega) (by rw [hA1]; decide) (by omega) (by congr 1; omega) rfl rfl (by rw [hA1]) h.fi h.fp h.fs h.fs1 rfl rfl rfl h.b1 h.b2 h.b3 h.b4).mono fun _ _ ⟨h1, h2⟩ => ?_
    exact ⟨_, _, h1, ⟨h.d1, h.d2, few_of h (by omega) (.inl ⟨hA1, hA2, rfl, rfl, rfl⟩)⟩, h2⟩
  · obtain ⟨i, s, h⟩ := short_okB mant z k hm0 hm53 hk1 hk2 hz1 hz2 (by omega)
    have hf := few_of (least := -1074) (top := 4503599627370496) h rfl (.inr ⟨hA, rfl, rfl, rfl⟩)
    rcases hz with rfl | ⟨hz, hk⟩
    · by_cases hm : mant * 2 ^ 11 = 9223372036854775808
      · refine (short67D _ _ (p10 k) _ _ (mant % 2) i s _ _ _ w hG hz2 hz1 h.fmx (by omega) (by omega) (by rw [hm]; decide) (by omega) (by congr 1; omega) rfl rfl (by omega) h.fi h.fp h.fs h.fs1 rfl rfl rfl h.b1 h.b2 h.b3 h.b4).mono fun _ _ ⟨h1, h2⟩ => ?_
        exact ⟨_, _, h1, ⟨h.d1, h.d2, hf⟩, h2⟩
      · refine (short67B _ _ (p10 k) _ _ (mant % 2) i s _ _ _ w hG hz2 hz1 h.fmx (by omega) (by omega) (by simp; omega) (by omega) (by congr 1; omega) rfl rfl (by omega) h.fi h.fp h.fs h.fs1 rfl rfl rfl h.b1 h.b2 h.b3 h.b4).mono fun _ _ ⟨h1, h2⟩ => ?_
        exact ⟨_, _, h1, ⟨h.d1, h.d2, hf⟩, h2⟩
    · have hz63 : z ≤ 63 := by
        have h1 : 2 ^ z < 2 ^ 64 := by
          have : 1 * 2 ^ z ≤ mant * 2 ^ z := Nat.mul_le_mul_right _ hm0
          exact Nat.lt_of_le_of_lt (by omega) hz2
        have := (Nat.pow_lt_pow_iff_right (by decide : 1 < 2)).1 h1
        omega
      obtain ⟨t, rfl⟩ := Nat.exists_eq_add_of_lt hz
      have e1 : 11 + t + 1 - 1 = 10 + (t + 1) := by omega
      have e2 : mant % 2 = mant * 2 ^ (11 + t + 1) / 2 ^ (11 + (t + 1)) % 2 := by rw [show 11 + t + 1 = 11 + (t + 1) by omega, Nat.mul_div_cancel _ (Nat.pow_pos (by decide))]
      by_cases hm : mant * 2 ^ (11 + t + 1) = 9223372036854775808
      · refine (short67G _ (t + 1) _ (p10 k) _ _ (mant % 2) i s _ _ _ w hG hz2 hz1 h.fmx (by omega) (by omega) (by rw [hm]; decide) (by omega) (by omega) (by omega) (by rw [hk]) (by rw [e1]) (by rw [e1]) e2 h.fi h.fp h.fs h.fs1 rfl rfl rfl h.b1 h.b2 h.b3 h.b4).mono fun _ _ ⟨h1, h2⟩ => ?_
        exact ⟨_, _, h1, ⟨h.d1, h.d2, hf⟩, h2⟩
      · refine (short67C _ (t + 1) _ (p10 k) _ _ (mant % 2) i s _ _ _ w hG hz2 hz1 h.fmx (by omega) (by omega) (by rw [beq_eq_false_iff_ne]; omega) (by omega) (by omega) (by omega) (by rw [hk]) (by rw [e1]) (by rw [e1]) e2 h.fi h.fp h.fs h.fs1 rfl rfl rfl h.b1 h.b2 h.b3 h.b4).mono fun _ _ ⟨h1, h2⟩ => ?_
        exact ⟨_, _, h1, ⟨h.d1, h.d2, hf⟩, h2⟩
set_option maxRecDepth 100000 in
theorem short_any59 (mant z : Nat) (k : Int) (w : World) (hG : Glob w) (hm0 : 1 ≤ mant) (hm53 : mant < 16777216) (hk1 : -149 ≤ k) (hk2 : k ≤ 104) (hz1 : 9223372036854775808 ≤ mant * 2 ^ z) (hz2 : mant * 2 ^ z < 18446744073709551616)
    (hz : z = 40 ∨ 40 < z ∧ k = -149) :
    Calls Tryd.prog 59 #[.int .u64 ((mant * 2 ^ z : Nat) : Int), .int .i64 (k - z)] w fun e' w' =>
      ∃ (d : Nat) (P : Int), e' = .returned (.tuple #[.int .u64 (d : Int), .int .i64 P]) ∧ (1 ≤ d ∧ d < 100000000000000000 ∧ Few mant k (-149) 8388608 d P) ∧ Below w.heap.size w w' := by
  by_cases hA : mant = 8388608 ∧ -149 < k
  · obtain ⟨hA1, hA2⟩ := hA
    obtain rfl : z = 40 := by omega
    obtain ⟨i, s, h⟩ := short_okA mant 40 k (by omega) (by omega) (by omega) (by omega) (by omega) hz1 hz2 (by omega)
    refine (short59A _ _ (p10S k) _ _ 0 i s _ _ _ w hG hz2 hz1 h.fmx (by omega) (by omega) (by rw [hA1]; decide) (by omega) (by congr 1; omega) rfl rfl (by rw [hA1]) h.fi h.fp h.fs h.fs1 rfl rfl rfl h.b1 h.b2 h.b3 h.b4).mono fun _ _ ⟨h1, h2⟩ => ?_
    exact ⟨_, _, h1, ⟨h.d1, h.d2, few_of h (by omega) (.inl ⟨hA1, hA2, rfl, rfl, rfl⟩)⟩, h2⟩
  · obtain ⟨i, s, h⟩ := short_okB mant z k hm0 (by omega) (by omega) (by omega) hz1 hz2 (by omega)
    have hf := few_of (least := -149) (top := 8388608) h rfl (.inr ⟨hA, rfl, rfl, rfl⟩)
    rcases hz with rfl | ⟨hz, hk⟩
    · by_cases hm : mant * 2 ^ 40 = 9223372036854775808
      · refine (short59D _ _ (p10 k) _ _ (mant % 2) i s _ _ _ w hG hz2 hz1 h.fmx (by omega) (by omega) (by rw [hm]; decide) (by omega) (by congr 1; omega) rfl rfl (by omega) h.fi h.fp h.fs h.fs1 rfl rfl rfl h.b1 h.b2 h.b3 h.b4).mono fun _ _ ⟨h1, h2⟩ => ?_
        exact ⟨_, _, h1, ⟨h.d1, h.d2, hf⟩, h2⟩
      · refine (short59B _ _ (p10 k) _ _ (mant % 2) i s _ _ _ w hG hz2 hz1 h.fmx (by omega) (by omega) (by simp; omega) (by omega) (by congr 1; omega) rfl rfl (by omega) h.fi h.fp h.fs h.fs1 rfl rfl rfl h.b1 h.b2 h.b3 h.b4).mono fun _ _ ⟨h1, h2⟩ => ?_
        exact ⟨_, _, h1, ⟨h.d1, h.d2, hf⟩, h2⟩
    · have hz63 : z ≤ 63 := by
        have h1 : 2 ^ z < 2 ^ 64 := by
          have : 1 * 2 ^ z ≤ mant * 2 ^ z := Nat.mul_le_mul_right _ hm0
          exact Nat.lt_of_le_of_lt (by omega) hz2
        have := (Nat.pow_lt_pow_iff_right (by decide : 1 < 2)).1 h1
        omega
      obtain ⟨t, rfl⟩ := Nat.exists_eq_add_of_lt hz
      have e1 : 40 + t + 1 - 1 = 39 + (t + 1) := by omega
      have e2 : mant % 2 = mant * 2 ^ (40 + t + 1) / 2 ^ (40 + (t + 1)) % 2 := by rw [show 40 + t + 1 = 40 + (t + 1) by omega, Nat.mul_div_cancel _ (Nat.pow_pos (by decide))]
      by_cases hm : mant * 2 ^ (40 + t + 1) = 9223372036854775808
      · refine (short59G _ (t + 1) _ (p10 k) _ _ (mant % 2) i s _ _ _ w hG hz2 hz1 h.fmx (by omega) (by omega) (by rw [hm]; decide) (by omega) (by omega) (by omega) (by rw [hk]) (by rw [e1]) (by rw [e1]) e2 h.fi h.fp h.fs h.fs1 rfl rfl rfl h.b1 h.b2 h.b3 h.b4).mono fun _ _ ⟨h1, h2⟩ => ?_
        exact ⟨_, _, h1, ⟨h.d1, h.d2, hf⟩, h2⟩
      · refine (short59C _ (t + 1) _ (p10 k) _ _ (mant % 2) i s _ _ _ w hG hz2 hz1 h.fmx (by omega) (by omega) (by rw [beq_eq_false_iff_ne]; omega) (by omega) (by omega) (by omega) (by rw [hk]) (by rw [e1]) (by rw [e1]) e2 h.fi h.fp h.fs h.fs1 rfl rfl rfl h.b1 h.b2 h.b3 h.b4).mono fun _ _ ⟨h1, h2⟩ => ?_
        exact ⟨_, _, h1, ⟨h.d1, h.d2, hf⟩, h2⟩
end Go.Proofs.YtnfddblpenninaaDoor
