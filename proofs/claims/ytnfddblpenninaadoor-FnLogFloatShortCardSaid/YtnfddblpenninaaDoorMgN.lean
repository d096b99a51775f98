/- A float of 64 bits in as few digits as may be, written by 'z': the walk. -/
import Derived.Test.YtnfddblpenninaaDoorShoM
namespace Go.Proofs.YtnfddblpenninaaDoor
open Go.RowKit

set_option maxRecDepth 1000000 in
set_option maxHeartbeats 16000000 in
theorem ftoa64z (b : Nat) (hb : b < 18446744073709551616) (hx : expF b < 2047) (hm0 : manF b = 0) (w : World) (hG : Glob w) :
    Calls Tryd.prog 46 #[.slice none 0 0, .float .f64 b, .int .u8 102, .int .i64 (-1)] w (TextEnd w (sgnF (decide (9223372036854775808 ≤ b)) ++ [48])) := by
  have hr := sbits_run b w
  obtain ⟨neg, hneg⟩ : ∃ neg, neg = decide (9223372036854775808 ≤ b) := ⟨_, rfl⟩
  have hng : ((b : Int) / 9223372036854775808 != 0) = neg := by
    rw [hneg, Bool.eq_iff_iff]
    simp
    omega
  have e1 : bits .and .u64 (b : Int) 4503599627370495 = (fracF b : Int) := by
    have := bits_and_u64_nat b 4503599627370495 (by omega) (by omega)
    rw [show (4503599627370495 : Nat) = 2 ^ 52 - 1 from rfl, Nat.and_two_pow_sub_one_eq_mod] at this
    exact this
  have e2 : bits .and .i64 ((b : Int) / 4503599627370496) 2047 = (expF b : Int) := by
    have := bits_and_i64_nat (b / 4503599627370496) 2047 (by omega) (by omega)
    rw [show (2047 : Nat) = 2 ^ 11 - 1 from rfl, Nat.and_two_pow_sub_one_eq_mod] at this
    exact this
  have e3 : bits .or .u64 (fracF b : Int) 4503599627370496 = ((fracF b + 4503599627370496 : Nat) : Int) := by
    have := bits_or_u64_nat (fracF b) 4503599627370496 (by unfold fracF; omega) (by omega)
    have h := Nat.two_pow_add_eq_or_of_lt (i := 52) (b := fracF b) (by unfold fracF; omega) 1
    have h2 : fracF b ||| 4503599627370496 = fracF b + 4503599627370496 := by
      rw [Nat.or_comm]
      exact h.symm.trans (Nat.add_comm _ _)
    rw [h2] at this
    exact this
  rw [← hneg]
  have HN := Lib.hid hneg
  have HG := Lib.hid hG
  clear hneg hG
  go_enter Tryd.func46, Tryd.ntmps46
  go_upto_region 14 with fail
  go_quiet (fail)
  go_upto_if 78 with fail
  obtain ⟨w1, hw1⟩ : ∃ w1, w1 = w.drewN nq := ⟨_, rfl⟩
  rw [← hw1]
  have hb1 : Below w.heap.size w w1 := by rw [hw1]; exact below_drewN (Below.refl _ _) nq
  have HB := Lib.hid (And.intro hb1 (HG.out.below hb1))
  clear hw1 hb1
  obtain ⟨m, hm⟩ : ∃ m, m = manF b := ⟨_, rfl⟩
  obtain ⟨X, hX⟩ : ∃ X, X = powF b + 52 := ⟨_, rfl⟩
  have hmlt := man_lt b
  rw [← hm] at hmlt hm0
  have hX1 : -1022 ≤ X := by
    rw [hX]
    unfold powF
    split <;> omega
  have hX2 : X ≤ 1023 := by
    rw [hX]
    unfold powF
    split <;> omega
  have hm52 : -1022 < X → 4503599627370496 ≤ m := by
    rw [hX, hm]
    unfold powF manF
    split <;> omega
  have hm53 : m < 4503599627370496 → X = -1022 := by
    rw [hX, hm]
    unfold powF manF
    split <;> omega
  have HM := Lib.hid (And.intro hm (And.intro hX (And.intro hm52 hm53)))
  clear hm52 hm53
  go_cut [14, 15] (fun v14 v15 wc => v14 = .int .i64 (X + 1023) ∧ v15 = .int .u64 (m : Int) ∧ wc = w1)
  case first =>
    by_cases h0 : expF b = 0
    · have hq : ((expF b : Int) == 0) = true := by simp; exact h0
      have H0 := Lib.hid h0
      clear h0 hm hX
      go_wp2_with fail
      go_meet
      have hM := HM.out
      refine ⟨congrArg (Value.int .i64) ?_, congrArg (Value.int .u64) ?_, rfl⟩
      · rw [hM.2.1, powF, if_pos H0.out]
        have := H0.out
        omega
      · rw [hM.1, manF, if_pos H0.out]
    · have hq : ((expF b : Int) == 0) = false := by simp; omega
      have H0 := Lib.hid h0
      clear h0 hm hX
      go_wp2_with fail
      go_meet
      have hM := HM.out
      refine ⟨congrArg (Value.int .i64) ?_, congrArg (Value.int .u64) ?_, rfl⟩
      · rw [hM.2.1, powF, if_neg H0.out]
        omega
      · rw [hM.1, manF, if_neg H0.out]
        rfl
  case rest =>
    obtain ⟨rfl, rfl, hwc⟩ := hcut
    obtain ⟨wB, hwB⟩ : ∃ wB, wB = wc := ⟨_, rfl⟩
    rw [← hwB] at hwc ⊢
    subst hwc
    clear hwB
    clear e1 e2 e3 hng hr hm hX
    obtain rfl : m = 0 := hm0
    have C57 := Lib.hid (efg0_walk neg wB)
    clear hX1 hX2 hmlt
    go_wp2_with (go_at_call 57; refine C57.out.mono ?_; intro e1 w7 h7; obtain ⟨v4, rfl, h8, h9⟩ := h7; have H7 := Lib.hid (And.intro h8 h9); clear h8 h9)
    go_returns
    exact ⟨v4, rfl, H7.out.1.lower HB.out.1.size, below_next HB.out.1 H7.out.2⟩
end Go.Proofs.YtnfddblpenninaaDoor
/- A float of 32 bits in as few digits as may be, written by 'z': the walk. -/
namespace Go.Proofs.YtnfddblpenninaaDoor
open Go.RowKit

set_option maxRecDepth 1000000 in
set_option maxHeartbeats 16000000 in
theorem ftoa32z (b : Nat) (hb : b < 4294967296) (hx : expS b < 255) (hm0 : manS b = 0) (w : World) (hG : Glob w) :
    Calls Tryd.prog 45 #[.slice none 0 0, .float .f32 b, .int .u8 102, .int .i64 (-1)] w (TextEnd w (sgnF (decide (2147483648 ≤ b)) ++ [48])) := by
  have hr := sbits32_run b w
  obtain ⟨neg, hneg⟩ : ∃ neg, neg = decide (2147483648 ≤ b) := ⟨_, rfl⟩
  have hng : ((b : Int) / 2147483648 != 0) = neg := by
    rw [hneg, Bool.eq_iff_iff]
    simp
    omega
  have e1 : bits .and .u64 (b : Int) 8388607 = (fracS b : Int) := by
    have := bits_and_u64_nat b 8388607 (by omega) (by omega)
    rw [show (8388607 : Nat) = 2 ^ 23 - 1 from rfl, Nat.and_two_pow_sub_one_eq_mod] at this
    exact this
  have e2 : bits .and .i64 ((b : Int) / 8388608) 255 = (expS b : Int) := by
    have := bits_and_i64_nat (b / 8388608) 255 (by omega) (by omega)
    rw [show (255 : Nat) = 2 ^ 8 - 1 from rfl, Nat.and_two_pow_sub_one_eq_mod] at this
    exact this
  have e3 : bits .or .u64 (fracS b : Int) 8388608 = ((fracS b + 8388608 : Nat) : Int) := by
    have := bits_or_u64_nat (fracS b) 8388608 (by unfold fracS; omega) (by omega)
    have h := Nat.two_pow_add_eq_or_of_lt (i := 23) (b := fracS b) (by unfold fracS; omega) 1
    have h2 : fracS b ||| 8388608 = fracS b + 8388608 := by
      rw [Nat.or_comm]
      exact h.symm.trans (Nat.add_comm _ _)
    rw [h2] at this
    exact this
  rw [← hneg]
  have HN := Lib.hid hneg
  have HG := Lib.hid hG
  clear hneg hG
  go_enter Tryd.func45, Tryd.ntmps45
  go_upto_region 14 with fail
  go_quiet (fail)
  go_upto_if 78 with fail
  obtain ⟨w1, hw1⟩ : ∃ w1, w1 = w.drewN nq := ⟨_, rfl⟩
  rw [← hw1]
  have hb1 : Below w.heap.size w w1 := by rw [hw1]; exact below_drewN (Below.refl _ _) nq
  have HB := Lib.hid (And.intro hb1 (HG.out.below hb1))
  clear hw1 hb1
  obtain ⟨m, hm⟩ : ∃ m, m = manS b := ⟨_, rfl⟩
  obtain ⟨X, hX⟩ : ∃ X, X = powS b + 23 := ⟨_, rfl⟩
  have hmlt := manS_lt b
  rw [← hm] at hmlt hm0
  have hX1 : -126 ≤ X := by
    rw [hX]
    unfold powS
    split <;> omega
  have hX2 : X ≤ 127 := by
    rw [hX]
    unfold powS
    split <;> omega
  have hm52 : -126 < X → 8388608 ≤ m := by
    rw [hX, hm]
    unfold powS manS
    split <;> omega
  have hm53 : m < 8388608 → X = -126 := by
    rw [hX, hm]
    unfold powS manS
    split <;> omega
  have HM := Lib.hid (And.intro hm (And.intro hX (And.intro hm52 hm53)))
  clear hm52 hm53
  go_cut [14, 15] (fun v14 v15 wc => v14 = .int .i64 (X + 127) ∧ v15 = .int .u64 (m : Int) ∧ wc = w1)
  case first =>
    by_cases h0 : expS b = 0
    · have hq : ((expS b : Int) == 0) = true := by simp; exact h0
      have H0 := Lib.hid h0
      clear h0 hm hX
      go_wp2_with fail
      go_meet
      have hM := HM.out
      refine ⟨congrArg (Value.int .i64) ?_, congrArg (Value.int .u64) ?_, rfl⟩
      · rw [hM.2.1, powS, if_pos H0.out]
        have := H0.out
        omega
      · rw [hM.1, manS, if_pos H0.out]
    · have hq : ((expS b : Int) == 0) = false := by simp; omega
      have H0 := Lib.hid h0
      clear h0 hm hX
      go_wp2_with fail
      go_meet
      have hM := HM.out
      refine ⟨congrArg (Value.int .i64) ?_, congrArg (Value.int .u64) ?_, rfl⟩
      · rw [hM.2.1, powS, if_neg H0.out]
        omega
      · rw [hM.1, manS, if_neg H0.out]
        rfl
  case rest =>
    obtain ⟨rfl, rfl, hwc⟩ := hcut
    obtain ⟨wB, hwB⟩ : ∃ wB, wB = wc := ⟨_, rfl⟩
    rw [← hwB] at hwc ⊢
    subst hwc
    clear hwB
    clear e1 e2 e3 hng hr hm hX
    obtain rfl : m = 0 := hm0
    have C57 := Lib.hid (efg0_walk neg wB)
    clear hX1 hX2 hmlt
    go_wp2_with (go_at_call 57; refine C57.out.mono ?_; intro e1 w7 h7; obtain ⟨v4, rfl, h8, h9⟩ := h7; have H7 := Lib.hid (And.intro h8 h9); clear h8 h9)
    go_returns
    exact ⟨v4, rfl, H7.out.1.lower HB.out.1.size, below_next HB.out.1 H7.out.2⟩
end Go.Proofs.YtnfddblpenninaaDoor
