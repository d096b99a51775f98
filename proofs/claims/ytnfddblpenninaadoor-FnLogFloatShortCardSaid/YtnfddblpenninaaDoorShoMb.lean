/- A float of 64 bits in as few digits as may be, written by 'f': the walk. -/
import Derived.Test.YtnfddblpenninaaDoorShoM
namespace Go.Proofs.YtnfddblpenninaaDoor
open Go.RowKit

set_option maxRecDepth 1000000 in
set_option maxHeartbeats 16000000 in
theorem ftoa64f (b : Nat) (hb : b < 18446744073709551616) (hx : expF b < 2047) (hm0 : manF b ≠ 0) (w : World) (hG : Glob w) :
    Calls Tryd.prog 46 #[.slice none 0 0, .float .f64 b, .int .u8 102, .int .i64 (-1)] w (ShortEnd w (decide (9223372036854775808 ≤ b)) (manF b) (powF b) (-1074) 4503599627370496 102) := by
  have hr := sbits_run b w
  obtain ⟨neg, hneg⟩ : ∃ neg, neg = decide (9223372036854775808 ≤ b) := ⟨_, rfl⟩
  have hng : ((b : Int) / 9223372036854775808 != 0) = neg := by
    rw [hneg, Bool.eq_iff_iff]
    simp
    omega
  have e1 : bits .and .u64 (b : Int) 4503599627370495 = (fracF b : Int) := by
    have := bits_and_u64_nat b 4503599627370495 (by omega) (by omega)
    rw [show (4503599627370495 : Nat) = 2 ^ 52 - 1 from rfl, Nat.and_two_pow_sub_one_eq_mod] at this
    exact this
  have e2 : bits .and .i64 ((b : Int) / 4503599627370496) 2047 = (expF b : Int) := by
    have := bits_and_i64_nat (b / 4503599627370496) 2047 (by omega) (by omega)
    rw [show (2047 : Nat) = 2 ^ 11 - 1 from rfl, Nat.and_two_pow_sub_one_eq_mod] at this
    exact this
  have e3 : bits .or .u64 (fracF b : Int) 4503599627370496 = ((fracF b + 4503599627370496 : Nat) : Int) := by
    have := bits_or_u64_nat (fracF b) 4503599627370496 (by unfold fracF; omega) (by omega)
    have h := Nat.two_pow_add_eq_or_of_lt (i := 52) (b := fracF b) (by unfold fracF; omega) 1
    have h2 : fracF b ||| 4503599627370496 = fracF b + 4503599627370496 := by
      rw [Nat.or_comm]
      exact h.symm.trans (Nat.add_comm _ _)
    rw [h2] at this
    exact this
  rw [← hneg]
  have HN := Lib.hid hneg
  have HG := Lib.hid hG
  clear hneg hG
  go_enter Tryd.func46, Tryd.ntmps46
  go_upto_region 14 with fail
  go_quiet (fail)
  go_upto_if 78 with fail
  obtain ⟨w1, hw1⟩ : ∃ w1, w1 = w.drewN nq := ⟨_, rfl⟩
  rw [← hw1]
  have hb1 : Below w.heap.size w w1 := by rw [hw1]; exact below_drewN (Below.refl _ _) nq
  have HB := Lib.hid (And.intro hb1 (HG.out.below hb1))
  clear hw1 hb1
  obtain ⟨m, hm⟩ : ∃ m, m = manF b := ⟨_, rfl⟩
  obtain ⟨X, hX⟩ : ∃ X, X = powF b + 52 := ⟨_, rfl⟩
  have hmlt := man_lt b
  rw [← hm] at hmlt hm0
  have hX1 : -1022 ≤ X := by
    rw [hX]
    unfold powF
    split <;> omega
  have hX2 : X ≤ 1023 := by
    rw [hX]
    unfold powF
    split <;> omega
  have hm52 : -1022 < X → 4503599627370496 ≤ m := by
    rw [hX, hm]
    unfold powF manF
    split <;> omega
  have hm53 : m < 4503599627370496 → X = -1022 := by
    rw [hX, hm]
    unfold powF manF
    split <;> omega
  have HM := Lib.hid (And.intro hm (And.intro hX (And.intro hm52 hm53)))
  clear hm52 hm53
  go_cut [14, 15] (fun v14 v15 wc => v14 = .int .i64 (X + 1023) ∧ v15 = .int .u64 (m : Int) ∧ wc = w1)
  case first =>
    by_cases h0 : expF b = 0
    · have hq : ((expF b : Int) == 0) = true := by simp; exact h0
      have H0 := Lib.hid h0
      clear h0 hm hX
      go_wp2_with fail
      go_meet
      have hM := HM.out
      refine ⟨congrArg (Value.int .i64) ?_, congrArg (Value.int .u64) ?_, rfl⟩
      · rw [hM.2.1, powF, if_pos H0.out]
        have := H0.out
        omega
      · rw [hM.1, manF, if_pos H0.out]
    · have hq : ((expF b : Int) == 0) = false := by simp; omega
      have H0 := Lib.hid h0
      clear h0 hm hX
      go_wp2_with fail
      go_meet
      have hM := HM.out
      refine ⟨congrArg (Value.int .i64) ?_, congrArg (Value.int .u64) ?_, rfl⟩
      · rw [hM.2.1, powF, if_neg H0.out]
        omega
      · rw [hM.1, manF, if_neg H0.out]
        rfl
  case rest =>
    obtain ⟨rfl, rfl, hwc⟩ := hcut
    obtain ⟨wB, hwB⟩ : ∃ wB, wB = wc := ⟨_, rfl⟩
    rw [← hwB] at hwc ⊢
    subst hwc
    clear hwB
    clear e1 e2 e3 hng hr hm hX
    have hXX : X + 1023 + -1023 = X := by omega
    have hmq : ((m : Int) == 0) = false := by simp; omega
    obtain ⟨z, hzm, hz1, hz2, hz64⟩ := norm_any m (by omega) (by omega)
    have hzb : z = 11 ∨ 11 < z ∧ X = -1022 := by
      rcases Nat.lt_or_ge m 4503599627370496 with h | h
      · have hX := HM.out.2.2.2 h
        refine .inr ⟨?_, hX⟩
        rcases Nat.lt_or_ge 11 z with h1 | h1
        · exact h1
        · exfalso
          have h2 : m * 2 ^ z < 4503599627370496 * 2 ^ z := Nat.mul_lt_mul_of_pos_right h (Nat.pow_pos (by decide))
          have h3 : 4503599627370496 * 2 ^ z ≤ 4503599627370496 * 2 ^ 11 := Nat.mul_le_mul_left _ (Nat.pow_le_pow_right (by decide) h1)
          have h4 : 4503599627370496 * 2 ^ 11 = 9223372036854775808 := by decide
          omega
      · refine .inl (Nat.le_antisymm ?_ ?_)
        · refine Nat.le_of_not_lt fun h1 => ?_
          have h3 : 4503599627370496 * 2 ^ (11 + 1) ≤ m * 2 ^ z := Nat.mul_le_mul h (Nat.pow_le_pow_right (by decide) h1)
          have h4 : 4503599627370496 * 2 ^ (11 + 1) = 18446744073709551616 := by decide
          omega
        · refine Nat.le_of_not_lt fun h1 => ?_
          have h2 : m * 2 ^ z < 9007199254740992 * 2 ^ z := Nat.mul_lt_mul_of_pos_right hmlt (Nat.pow_pos (by decide))
          have h3 : 9007199254740992 * 2 ^ z ≤ 9007199254740992 * 2 ^ (11 - 1) := Nat.mul_le_mul_left _ (Nat.pow_le_pow_right (by decide) (by omega))
          have h4 : 9007199254740992 * 2 ^ (11 - 1) = 9223372036854775808 := by decide
          omega
    have hk : X - 52 = powF b := by have := HM.out.2.1; omega
    have C67 := Lib.hid (fun w2 (hg : Glob w2) => short_any67 m z (X - 52) w2 hg (by omega) hmlt (by omega) (by omega) hz1 hz2 (by omega))
    have c58 := fun w2 => Tryd.bits_Len64 (m : Int) w2 (by omega) (by omega)
    simp only [Int.toNat_natCast, hzm] at c58
    have C58 := Lib.hid c58
    have hsub : (64 : Int) - ((64 - z : Nat) : Int) = (z : Int) := by omega
    obtain ⟨M, hMz⟩ : ∃ M, M = m * 2 ^ z := ⟨_, rfl⟩
    rw [← hMz] at C67 hz2
    have hsh : (m : Int) * 2 ^ z = (M : Int) := by rw [hMz]; simp
    have hM0 : 0 ≤ (M : Int) := by omega
    have hW0 := Whole.new wB 93 (Array.replicate 32 (.int .u8 0))
    have HW0 := Lib.hid hW0
    have HBg := HB.out.2
    have HG2 := Lib.hid (HBg.below ((Below.refl wB.heap.size wB).alloc (Nat.le_refl _) (.cells (Array.replicate 32 (.int .u8 0)) 93)))
    have he5 : X - (z : Int) - 52 = X - 52 - (z : Int) := by omega
    have HK := Lib.hid hk
    clear hW0 HBg c58 hk hzm hz1 hzb hMz
    go_upto_region 38 with (first
      | (go_at_call 58; refine (C58.out _).mono ?_; rintro e1 w2 ⟨rfl, rfl⟩)
      | (go_at_call 67; refine (C67.out _ HG2.out).mono ?_; rintro e1 w3 ⟨d, P, rfl, h1, h3⟩; have H3 := Lib.hid (And.intro h1 h3); clear h1 h3))
    have hfb := few_bounds H3.out.1.2.2
    have HFW := Lib.hid H3.out.1.2.2
    have hd0 : 1 ≤ d := H3.out.1.1
    have hd17 : d < 100000000000000000 := H3.out.1.2.1
    have HB3 := Lib.hid (((Below.refl wB.heap.size wB).alloc (Nat.le_refl _) (.cells (Array.replicate 32 (.int .u8 0)) 93)).trans (below_lower H3.out.2 (by simp)))
    have hW3 : Whole w3 wB.heap.size 93 (Array.replicate 32 (.int .u8 0)) := HW0.out.below H3.out.2 (by simp)
    have HW3 := Lib.hid hW3
    clear hW3
    obtain ⟨N, hN⟩ : ∃ N, N = Lib.nDigits d := ⟨_, rfl⟩
    have hN1 : 1 ≤ N := by rw [hN]; exact Lib.nDigits_pos d
    have hN2 : N ≤ 17 := by
      refine Nat.le_of_not_lt fun h => ?_
      have h1 := le_nDigits d hd0
      rw [← hN] at h1
      have h2 := Nat.pow_le_pow_right (by decide : 0 < 10) (by omega : 17 ≤ N - 1)
      have h3 : (10 : Nat) ^ 17 = 100000000000000000 := by decide
      omega
    have C61 := Lib.hid (fun w5 (hb : Below w3.heap.size w3 w5) => Tryd.internal_strconv_numDigits d (by omega) (by omega) w5 ((HG2.out.below H3.out.2).below hb).tens)
    have C60 := Lib.hid (fun w5 (hW : Whole w5 wB.heap.size 93 (Array.replicate 32 (.int .u8 0))) => setd_walk wB.heap.size 32 d N P _ w5 hW (by simp) (fun i hi => by simp [hi]) (by omega) hN (by omega) (by omega) (by omega) (by omega))
    rw [← hN] at C61
    clear hN hX1 hX2 hsh he5 hM0 hz2
    go_region_with (first
      | (go_at_call 61; refine (C61.out _ (below_drewN (Below.refl _ _) _)).mono ?_; rintro e1 w5 ⟨rfl, rfl⟩)
      | (go_at_call 60; refine (C60.out _ (HW3.out.drewN _)).mono ?_; rintro e1 w6 ⟨k, ds, rfl, h1, h2, h3⟩; have H6 := Lib.hid (And.intro h1 (And.intro h2 h3)); clear h1 h2 h3))
    obtain ⟨⟨g1, g2, g3, g4⟩, g5, g6⟩ := H6.out
    have hk0 : 0 < k := by
      rcases Nat.eq_zero_or_pos k with rfl | h
      · exfalso
        have := List.length_eq_zero_iff.1 g2
        subst this
        simp [numL] at g4
        omega
      · exact h
    have hb6 : Below wB.heap.size wB w6 := (below_drewN HB3.out _).trans (g6.below (B := wB.heap.size) (by have := HB3.out.size; simp; omega) (by rintro x rfl; exact Nat.le_refl _))
    obtain ⟨dp, hdp⟩ : ∃ dp, dp = (N : Int) + P := ⟨_, rfl⟩
    have hdp1 : -400 ≤ dp := by omega
    have hdp2 : dp ≤ 400 := by omega
    have HDS := Lib.hid (And.intro g2 (And.intro g3 (And.intro g4 (And.intro g5 (And.intro hb6 hdp)))))
    rw [← hdp]
    have hSD : ShortDs (manF b) (powF b) (-1074) 4503599627370496 ds dp := ⟨d, N, P, ⟨hd0, by rw [← HM.out.1, ← HK.out]; exact HFW.out⟩, g3, ⟨by omega, by omega, by omega⟩, by rw [g2]; exact g4, hdp, by omega, by omega⟩
    have HSD := Lib.hid hSD
    clear g2 g3 g4 g5 g6 hb6 hdp H6 hSD hfb
    obtain ⟨r, hr⟩ : ∃ r, r = ((k : Int) - dp).toNat := ⟨_, rfl⟩
    go_upto_block 1 with fail
    go_cut [3] (fun q wz => q = .int .i64 (r : Int) ∧ wz = w6)
    case first => as_aux_lemma =>
      go_wp2_with fail
      go_meet
      exact ⟨congrArg (Value.int .i64) (by omega), rfl⟩
    case rest => as_aux_lemma =>
      obtain ⟨rfl, hwc⟩ := hcut
      obtain ⟨wE, hwE⟩ : ∃ wE, wE = wc := ⟨_, rfl⟩
      rw [← hwE] at hwc ⊢
      subst hwc
      clear hwE
      have C57 := Lib.hid (efg_walk neg (.slice (some ⟨wB.heap.size, 0, none⟩) 32 32) ds k HDS.out.1 dp r true wE (.inr HDS.out.2.2.2.1) (fun _ => hk0) (by omega) (by omega) (by omega) (by omega))
      have HR := Lib.hid hr
      clear hr
      go_wp2_with (go_at_call 57; refine C57.out.mono ?_; intro e1 w7 h7; obtain ⟨v4, rfl, h8, h9⟩ := h7; have H7 := Lib.hid (And.intro h8 h9); clear h8 h9)
      go_returns
      have hb7 := below_next (below_next HB.out.1 HDS.out.2.2.2.2.1) H7.out.2
      refine ⟨v4, ds, dp, rfl, ?_, HSD.out, hb7⟩
      rw [textS, if_neg (by decide), HDS.out.1, ← HR.out]
      exact H7.out.1.lower (below_next HB.out.1 HDS.out.2.2.2.2.1).size
end Go.Proofs.YtnfddblpenninaaDoor
