/- Whether a number is near a float: the walk. -/
import Derived.Test.YtnfddblpenninaaDoorMgO
import Derived.Test.YtnfddblpenninaaDoorMgK
namespace Go.Proofs.YtnfddblpenninaaDoor
open Go.RowKit

theorem side_three (C : Nat) (e : Int) (y : Nat) (j : Int) : sideN C e y j = -1 ∨ sideN C e y j = 0 ∨ sideN C e y j = 1 := by
  unfold sideN cmpN
  split
  · exact .inl rfl
  · split
    · exact .inr (.inl rfl)
    · exact .inr (.inr rfl)
/-- What is near, by the two comparisons. -/
def nearV (a b : Int) (r : Nat) : Bool := (decide (0 < a) || (a == 0 && r == 0)) && (decide (b < 0) || (b == 0 && r == 0))
theorem near_eq (C : Nat) (e : Int) (m : Nat) (k least : Int) (top lo : Nat) (lj : Int) (h : (m = top ∧ least < k ∧ lo = 4 * m - 1 ∧ lj = k - 2) ∨ (¬(m = top ∧ least < k) ∧ lo = 2 * m - 1 ∧ lj = k - 1)) :
    nearB C e m k least top = nearV (sideN C e lo lj) (sideN C e (2 * m + 1) (k - 1)) (m % 2) := by
  unfold nearB nearV
  rcases h with ⟨h1, h2, h3, h4⟩ | ⟨h1, h3, h4⟩
  · rw [if_pos ⟨h1, h2⟩, h3, h4]
  · rw [if_neg h1, h3, h4]

set_option maxRecDepth 1000000 in
set_option maxHeartbeats 16000000 in
theorem near_long (neg : Bool) (s : ByteArray) (l sg xs : List UInt8) (hT : TextX neg s l sg xs) (E : Int) (hE : E = -(behindD l l.length : Int) + expV sg xs) (hE1 : -1000 ≤ E) (hE2 : E ≤ 1000) (b : Nat) (hb : b < 18446744073709551616) (hxb : expF b < 2047) (hneg : neg = decide (9223372036854775808 ≤ b))
    (M j : Nat) (K : Int) (hm : manF b = M * 2 ^ j) (hk : powF b = K - j) (hM0 : 0 < M) (hM1 : M < 9007199254740992) (hK1 : -1074 ≤ K) (hK2 : K ≤ 1000) (hn : 4503599627370496 ≤ M ∨ K = -1074) (hj : j ≤ 60) (w : World) :
    Calls Tryd.prog 25 #[.string s, .float .f64 b, .bool false] w fun e w' => e = .returned (.bool (nearB (numD l) E M K (-1074) 4503599627370496)) ∧ Below w.heap.size w w' := by
  obtain ⟨c0, l', hlc⟩ : ∃ c0 l', l = c0 :: l' := by
    have h := hT.cnt
    cases l with
    | nil => simp [cntD] at h
    | cons c r => exact ⟨c, r, rfl⟩
  have c9 := decimalX_walk neg s l sg xs hT.str hT.plain (by have := hT.len; omega) hT.cnt c0 l' hlc hT.sgn hT.dig hT.pos hT.three w
  unfold DecXEnd at c9
  rw [← hE] at c9
  have C9 := Lib.hid c9
  have c10 := fun W => nan_any b W
  rw [order_self_fin b hb hxb] at c10
  have C10 := Lib.hid c10
  have c11 := fun W => inf_any b W hb
  have hib : infB b = false := infP_fin (b % 9223372036854775808) (by omega) (by rw [exp_mod b hb]; exact hxb)
  rw [hib] at c11
  replace c11 : ∀ W, Calls Tryd.prog 11 #[.float .f64 b, .int .i64 0] W fun e w' => e = .returned (.bool false) ∧ W = w' := fun W => (c11 W).mono fun _ _ ⟨h1, h2⟩ => ⟨h1, h2.symm⟩
  have C11 := Lib.hid c11
  have c12 := fun W => sign_any b W hb
  rw [← hneg] at c12
  have C12 := Lib.hid c12
  have hnn : (neg != neg) = false := by cases neg <;> rfl
  have hr := fun W => bits_run b W
  have e1 : bits .and .u64 (b : Int) 4503599627370495 = (fracF b : Int) := by
    have := bits_and_u64_nat b 4503599627370495 hb (by omega)
    rw [show (4503599627370495 : Nat) = 2 ^ 52 - 1 from rfl, Nat.and_two_pow_sub_one_eq_mod] at this
    exact this
  have e2 : bits .and .u64 ((b : Int) / 4503599627370496) 2047 = (expF b : Int) := by
    have := bits_and_u64_nat (b / 4503599627370496) 2047 (by omega) (by omega)
    rw [show (2047 : Nat) = 2 ^ 11 - 1 from rfl, Nat.and_two_pow_sub_one_eq_mod] at this
    exact this
  have e3 : bits .or .u64 (fracF b : Int) 4503599627370496 = ((fracF b + 4503599627370496 : Nat) : Int) := by
    have := bits_or_u64_nat (fracF b) 4503599627370496 (by unfold fracF; omega) (by omega)
    have h := Nat.two_pow_add_eq_or_of_lt (i := 52) (b := fracF b) (by unfold fracF; omega) 1
    have h2 : fracF b ||| 4503599627370496 = fracF b + 4503599627370496 := by
      rw [Nat.or_comm]
      exact h.symm.trans (Nat.add_comm _ _)
    rw [h2] at this
    exact this
  obtain ⟨mb, hmb⟩ : ∃ mb, mb = manF b := ⟨_, rfl⟩
  obtain ⟨kb, hkb⟩ : ∃ kb, kb = powF b := ⟨_, rfl⟩
  have hfr : fracF b < 4503599627370496 := by unfold fracF; omega
  have hmlt := man_lt b
  rw [← hmb] at hm hmlt
  rw [← hkb] at hk
  have HM := Lib.hid (And.intro hmb (And.intro hkb (And.intro hm hk)))
  have hl5 := hT.len
  obtain ⟨C, hC⟩ : ∃ C, C = numD l := ⟨_, rfl⟩
  rw [← hC]
  have HCC := Lib.hid hC
  obtain ⟨ta, hta⟩ : ∃ ta, ta = (if M = 4503599627370496 ∧ -1074 < K then 4 * M - 1 else 2 * M - 1) := ⟨_, rfl⟩
  obtain ⟨lj, hlj⟩ : ∃ lj, lj = (if M = 4503599627370496 ∧ -1074 < K then K - 2 else K - 1) := ⟨_, rfl⟩
  have hab : ta < 18446744073709551616 := by
    rw [hta]
    split <;> omega
  have hlb : -1500 ≤ lj ∧ lj ≤ 1500 := by
    rw [hlj]
    split <;> omega
  have hlb1 := hlb.1
  have hlb2 := hlb.2
  have hnear := near_eq C E M K (-1074) 4503599627370496 ta lj (by
    by_cases h : M = 4503599627370496 ∧ -1074 < K
    · rw [if_pos h] at hta hlj
      exact .inl ⟨h.1, h.2, hta, hlj⟩
    · rw [if_neg h] at hta hlj
      exact .inr ⟨h, hta, hlj⟩)
  obtain ⟨A, hA⟩ : ∃ A, A = sideN C E ta lj := ⟨_, rfl⟩
  obtain ⟨B, hB⟩ : ∃ B, B = sideN C E (2 * M + 1) (K - 1) := ⟨_, rfl⟩
  rw [← hA, ← hB] at hnear
  obtain ⟨R, hR⟩ : ∃ R, R = M % 2 := ⟨_, rfl⟩
  rw [hnear, ← hR]
  have HR := Lib.hid hR
  have hA3 := side_three C E ta lj
  have hB3 := side_three C E (2 * M + 1) (K - 1)
  rw [← hA] at hA3
  rw [← hB] at hB3
  have HAL := Lib.hid (And.intro hta (And.intro hlj (And.intro hA (And.intro hB (And.intro hA3 hB3)))))
  clear hta hlj hnear hA hB hA3 hB3 hR
  clear c9 c10 c11 c12 hT hE hlc hib hneg hmb hkb hm hk hC
  go_enter Tryd.func25, Tryd.ntmps25
  go_upto_if 56 with (first
    | (go_at_call 9; refine C9.out.mono ?_; rintro e0 w1 ⟨q, c, k, ys, rfl, h1⟩; have H1 := Lib.hid h1; clear h1)
    | (go_at_call 10; refine (C10.out _).mono ?_; rintro e0 w2 ⟨rfl, rfl⟩)
    | (go_at_call 11; refine (C11.out _).mono ?_; rintro e0 w2 ⟨rfl, rfl⟩)
    | (go_at_call 12; refine (C12.out _).mono ?_; rintro e0 w2 ⟨rfl, rfl⟩))
  go_cut [14, 16] (fun v14 v16 wc => v14 = .int .u64 (mb : Int) ∧ v16 = .int .i64 kb ∧ wc = w1)
  case first =>
    by_cases h0 : expF b = 0
    · have hq : ((expF b : Int) == 0) = true := by simp; exact h0
      have H0 := Lib.hid h0
      clear h0
      go_wp2_with fail
      go_meet
      have hM := HM.out
      refine ⟨congrArg (Value.int .u64) ?_, congrArg (Value.int .i64) ?_, rfl⟩
      · rw [hM.1, manF, if_pos H0.out]
      · rw [hM.2.1, powF, if_pos H0.out]
    · have hq : ((expF b : Int) == 0) = false := by simp; omega
      have H0 := Lib.hid h0
      clear h0
      go_wp2_with fail
      go_meet
      have hM := HM.out
      refine ⟨congrArg (Value.int .u64) ?_, congrArg (Value.int .i64) ?_, rfl⟩
      · rw [hM.1, manF, if_neg H0.out]
        rfl
      · rw [hM.2.1, powF, if_neg H0.out]
  case rest =>
    obtain ⟨rfl, rfl, hwc⟩ := hcut
    obtain ⟨wD, hwD⟩ : ∃ wD, wD = wc := ⟨_, rfl⟩
    rw [← hwD] at hwc ⊢
    subst hwc
    clear hwD e1 e2 e3 hr hnn hfr
    have hC := HCC.out
    obtain ⟨h1, ⟨h2, h3⟩, h4, h5, h6⟩ := H1.out
    rw [List.take_of_length_le (Nat.le_refl _), ← hC] at h4
    have hk5 : k ≤ 500 := by omega
    have HN := Lib.hid (And.intro h1 (And.intro h2 (And.intro h3 (And.intro h4 h6))))
    clear h1 h2 h3 h4 h5 h6 H1 hC
    go_wp2_with fail
    go_loop [14, 16] (fun vm vk => ∃ (i m : Nat) (v : Int), vm = .int .u64 (m : Int) ∧ vk = .int .i64 v ∧ v = K - (i : Int) ∧ m < 9007199254740992 ∧ i ≤ 60 ∧ Hid (m = M * 2 ^ i)) (fun _ vk => (K - intOf vk).toNat)
    case atStart => exact ⟨j, mb, kb, rfl, rfl, HM.out.2.2.2, by omega, hj, Lib.hid HM.out.2.2.1⟩
    case round =>
      obtain ⟨i, m, v, rfl, rfl, hv, hm9, hi, hI⟩ := hrel
      rcases i with _ | i
      · obtain rfl : v = K := by omega
        obtain rfl : m = M := by have := hI.out; omega
        clear hv hI
        obtain ⟨mi, hmi⟩ : ∃ mi : Int, mi = (m : Int) := ⟨_, rfl⟩
        have hmi0 : 0 < mi := by omega
        have hmi1 : mi < 9007199254740992 := by omega
        have g1 : (mi != 0) = true := by simp; omega
        have g2 : decide (9007199254740992 ≤ mi) = false := by simp; omega
        have g3 : decide (v < -1074) = false := by simp; omega
        have g4 : (mi == 0) = false := by simp; omega
        have g5 : (decide (mi < 4503599627370496) = false ∧ ((mi == 4503599627370496) = true ∧ decide (-1074 < v) = true ∧ (ta : Int) = 4 * mi - 1 ∧ lj = v - 2)) ∨ (decide (mi < 4503599627370496) = false ∧ ((mi == 4503599627370496) = true ∧ decide (-1074 < v) = false ∧ (ta : Int) = 2 * mi - 1 ∧ lj = v - 1)) ∨ (decide (mi < 4503599627370496) = false ∧ ((mi == 4503599627370496) = false ∧ (ta : Int) = 2 * mi - 1 ∧ lj = v - 1)) ∨ (decide (mi < 4503599627370496) = true ∧ decide (-1074 < v) = false ∧ (mi == 4503599627370496) = false ∧ (ta : Int) = 2 * mi - 1 ∧ lj = v - 1) := by
          have h1 := HAL.out.1
          have h2 := HAL.out.2.1
          rcases Nat.lt_trichotomy m 4503599627370496 with h | h | h
          · have h3 : v = -1074 := by omega
            rw [if_neg (by omega)] at h1 h2
            exact .inr (.inr (.inr ⟨by simp; omega, by simp; omega, by simp; omega, by omega, h2⟩))
          · rcases Int.lt_or_le (-1074) v with h3 | h3
            · rw [if_pos ⟨h, h3⟩] at h1 h2
              exact .inl ⟨by simp; omega, by simp; omega, by simp; omega, by omega, h2⟩
            · rw [if_neg (by omega)] at h1 h2
              exact .inr (.inl ⟨by simp; omega, by simp; omega, by simp; omega, by omega, h2⟩)
          · rw [if_neg (by omega)] at h1 h2
            exact .inr (.inr (.inl ⟨by simp; omega, by simp; omega, by omega, h2⟩))
        rw [← hmi]
        have HMI := Lib.hid hmi
        have hvv : -1200 ≤ v := by omega
        clear hmi hm9 hM0 hM1 hK1 hn
        go_upto_block 2 with fail
        clear g2 g3
        go_cut [14, 16] (fun v14 v16 wz => v14 = .int .u64 mi ∧ v16 = .int .i64 v ∧ wz = wD)
        case first => as_aux_lemma =>
          rcases g5 with ⟨g6, g7, g8, g9, g0⟩ | ⟨g6, g7, g8, g9, g0⟩ | ⟨g6, g7, g9, g0⟩ | ⟨g6, g8, g7, g9, g0⟩
          all_goals
            clear g9 g0
            go_wp2_with fail
            refine wp_loop_rounds 1 ?_
            rw [rounds_succ]
            go_wp2_with fail
            go_meet
            exact ⟨rfl, rfl, rfl⟩
        case rest =>
          obtain ⟨rfl, rfl, hwc⟩ := hcut
          obtain ⟨wE, hwE⟩ : ∃ wE, wE = wc := ⟨_, rfl⟩
          rw [← hwE] at hwc ⊢
          subst hwc
          clear hwE
          obtain ⟨bb, hbb⟩ : ∃ bb, (bb = true ∧ (mi == 4503599627370496) = true ∧ decide (-1074 < v) = true ∧ (ta : Int) = 4 * mi - 1 ∧ lj = v - 2) ∨ (bb = false ∧ (((mi == 4503599627370496) = true ∧ decide (-1074 < v) = false) ∨ (mi == 4503599627370496) = false) ∧ (ta : Int) = 2 * mi - 1 ∧ lj = v - 1) := by
            rcases g5 with ⟨g6, g7, g8, g9, g0⟩ | ⟨g6, g7, g8, g9, g0⟩ | ⟨g6, g7, g9, g0⟩ | ⟨g6, g8, g7, g9, g0⟩
            · exact ⟨true, .inl ⟨rfl, g7, g8, g9, g0⟩⟩
            · exact ⟨false, .inr ⟨rfl, .inl ⟨g7, g8⟩, g9, g0⟩⟩
            · exact ⟨false, .inr ⟨rfl, .inr g7, g9, g0⟩⟩
            · exact ⟨false, .inr ⟨rfl, .inr g7, g9, g0⟩⟩
          have HBB := Lib.hid hbb
          clear hbb g5
          go_upto_region 23 with fail
          go_cut [120] (fun t wz => t = .bool bb ∧ wz = wE)
          case first => as_aux_lemma =>
            rcases HBB.out with ⟨rfl, g7, g8, _, _⟩ | ⟨rfl, ⟨g7, g8⟩ | g7, _, _⟩
            all_goals
              go_wp2_with fail
              go_meet
              exact ⟨rfl, rfl⟩
          case rest =>
          obtain ⟨rfl, hwc⟩ := hcut
          obtain ⟨wG, hwG⟩ : ∃ wG, wG = wc := ⟨_, rfl⟩
          rw [← hwG] at hwc ⊢
          subst hwc
          clear hwG
          go_upto_if 120 with fail
          go_cut [17, 18] (fun v17 v18 wz => v17 = .int .u64 (ta : Int) ∧ v18 = .int .i64 lj ∧ wz = wG)
          case first => as_aux_lemma =>
            rcases HBB.out with ⟨rfl, _, _, g9, g0⟩ | ⟨rfl, _, g9, g0⟩
            all_goals
              have g9' := g9.symm
              have G0 := Lib.hid g0
              clear g9 g0
              go_wp2_with fail
              go_meet
              exact ⟨by first | rfl | rw [g9'], by rw [G0.out], rfl⟩
          case rest =>
            obtain ⟨rfl, rfl, hwc⟩ := hcut
            obtain ⟨wF, hwF⟩ : ∃ wF, wF = wc := ⟨_, rfl⟩
            rw [← hwF] at hwc ⊢
            subst hwc
            clear hwF
            have hn0 := HN.out
            have hk := hn0.1
            have c17 := fun W (hb : Below wF.heap.size wF W) => side_walk q c k ys E lj ta W (hn0.2.1.below hb) hk hk5 hn0.2.2.1 hab (by omega) (by omega) (by omega) (by omega)
            have d17 := fun W (hb : Below wF.heap.size wF W) => side_walk q c k ys E (v - 1) (2 * m + 1) W (hn0.2.1.below hb) hk hk5 hn0.2.2.1 (by have := HMI.out; omega) (by omega) (by omega) (by omega) (by omega)
            rw [hn0.2.2.2.1, ← HAL.out.2.2.1] at c17
            rw [hn0.2.2.2.1, ← HAL.out.2.2.2.1, show ((2 * m + 1 : Nat) : Int) = 2 * mi + 1 by have := HMI.out; omega] at d17
            have C17 := Lib.hid c17
            have D17 := Lib.hid d17
            have hand : bits .and .u64 mi 1 = (R : Int) := by
              have := bits_and_u64_nat m 1 (by have := HMI.out; omega) (by omega)
              rw [Nat.and_one_is_mod, ← HR.out, ← HMI.out] at this
              exact this
            have hR2 : R = 0 ∨ R = 1 := by have := HR.out; omega
            have HR2 := Lib.hid hR2
            clear c17 d17 hn0 hk hR2
            go_upto_region 26 with (first
              | (go_at_call 17; (with_reducible refine (C17.out _ (Below.refl _ _)).mono ?_); rintro e1 w4 ⟨rfl, h4⟩; have H4 := Lib.hid h4; clear h4)
              | (go_at_call 17; (with_reducible refine (D17.out _ H4.out).mono ?_); rintro e2 w5 ⟨rfl, h5⟩; have H5 := Lib.hid h5; clear h5))
            have hbe := below_next (below_next HN.out.2.2.2.2 H4.out) H5.out
            have HBE := Lib.hid hbe
            clear hbe g4
            have hbs := HAL.out.2.2.2.2.2
            have hrs := HR2.out
            have HRS := Lib.hid (And.intro hbs hrs)
            clear hbs hrs
            rcases HAL.out.2.2.2.2.1 with hA | hA | hA
            · as_aux_lemma =>
              clear HRS
              subst hA
              clear HAL HR2 HR C17 D17
              go_wp2_with fail
              go_returns
              exact ⟨rfl, HBE.out⟩
            · rcases HRS.out.2 with h2 | h2
              · rcases HRS.out.1 with hB | hB | hB
                all_goals as_aux_lemma =>
                  clear HRS
                  subst hA hB h2
                  clear HAL HR2 HR C17 D17
                  go_wp2_with fail
                  go_returns
                  exact ⟨rfl, HBE.out⟩
              · as_aux_lemma =>
                clear HRS
                subst hA h2
                clear HAL HR2 HR C17 D17
                go_wp2_with fail
                go_returns
                exact ⟨rfl, HBE.out⟩
            · rcases HRS.out.1 with hB | hB | hB
              · as_aux_lemma =>
                clear HRS
                subst hA hB
                clear HAL HR2 HR C17 D17
                go_wp2_with fail
                go_returns
                exact ⟨rfl, HBE.out⟩
              · rcases HRS.out.2 with h2 | h2
                all_goals as_aux_lemma =>
                  clear HRS
                  subst hA hB h2
                  clear HAL HR2 HR C17 D17
                  go_wp2_with fail
                  go_returns
                  exact ⟨rfl, HBE.out⟩
              · as_aux_lemma =>
                clear HRS
                subst hA hB
                clear HAL HR2 HR C17 D17
                go_wp2_with fail
                go_returns
                exact ⟨rfl, HBE.out⟩
      · have hm2 : m = 2 * (M * 2 ^ i) := by rw [hI.out, Nat.pow_succ, ← Nat.mul_assoc, Nat.mul_comm]
        obtain ⟨m2, hm3⟩ : ∃ m2, m2 = M * 2 ^ i := ⟨_, rfl⟩
        rw [← hm3] at hm2
        subst hm2
        have hM2 : M ≤ m2 := by
          rw [hm3]
          exact Nat.le_mul_of_pos_right _ (Nat.pow_pos (by decide))
        have HI := Lib.hid hm3
        have hand : bits .and .u64 ((2 * m2 : Nat) : Int) 1 = 0 := by
          have := bits_and_u64_nat (2 * m2) 1 (by omega) (by omega)
          rw [Nat.and_one_is_mod, show 2 * m2 % 2 = 0 by omega] at this
          exact this
        have hlt : m2 < 4503599627370496 := by omega
        obtain ⟨mi, hmi⟩ : ∃ mi : Int, mi = (m2 : Int) := ⟨_, rfl⟩
        have hc2 : ((2 * m2 : Nat) : Int) = 2 * mi := by omega
        rw [hc2] at hand ⊢
        have hmi0 : 0 < mi := by omega
        have hmi1 : mi < 4503599627370496 := by omega
        have hd2 : 2 * mi / 2 = mi := by omega
        have g1 : (2 * mi != 0) = true := by simp; omega
        have g2 : decide (9007199254740992 ≤ 2 * mi) = true ∨ (decide (9007199254740992 ≤ 2 * mi) = false ∧ decide (v < -1074) = true) := by
          rcases Int.lt_or_le (2 * mi) 9007199254740992 with h | h
          · exact .inr ⟨by simp; omega, by simp; omega⟩
          · exact .inl (by simp; omega)
        have hv1 : -1200 ≤ v ∧ v ≤ 1000 := by omega
        obtain ⟨hv1, hv2⟩ := hv1
        have HMI := Lib.hid (And.intro hmi (And.intro hv hlt))
        clear hm3 hI hmi hc2 hm9 hM0 hM1 hK1 hn hM2 hlt hv
        rcases g2 with g2 | ⟨g2, g3⟩
        all_goals
          go_wp2_with fail
          refine ⟨⟨i, m2, v + 1, by rw [HMI.out.1], rfl, by have := HMI.out.2.1; omega, by have := HMI.out.2.2; omega, by omega, HI⟩, by simp [intOf]; have := HMI.out.2.1; omega⟩
end Go.Proofs.YtnfddblpenninaaDoor
