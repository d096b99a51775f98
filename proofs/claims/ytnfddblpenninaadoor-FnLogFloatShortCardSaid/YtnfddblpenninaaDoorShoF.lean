/- The shortest digits, walked: further ways. Printed by gen_short.py. -/
import Derived.Test.YtnfddblpenninaaDoorShoE
namespace Go.Proofs.YtnfddblpenninaaDoor
open Go.RowKit

set_option maxRecDepth 100000 in
set_option maxHeartbeats 4000000 in
theorem short67C (m t : Nat) (e p : Int) (mn mx odd i s umin umax um : Nat) (w : World) (hG : Glob w) (hm : m < 18446744073709551616) (hm1 : 9223372036854775808 ≤ m) (hmx : mx < 18446744073709551616) (_he1 : -1137 ≤ e) (_he2 : e ≤ 1000)
    (hq1 : ((m : Int) == 9223372036854775808) = false) (ht1 : 1 ≤ t) (ht2 : t ≤ 52) (h1 : e = -1085 - (t : Int)) (h2 : p = p10 (-1074)) (h3 : mn = m - 2 ^ (10 + t)) (h4 : mx = m + 2 ^ (10 + t)) (h5 : odd = m / 2 ^ (11 + t) % 2)
    (hi : i < 696) (hp : p + 348 = (i : Int)) (hs : -(e + lp10 p + 3) = (s : Int)) (hs1 : s ≤ 63)
    (hu1 : uscaleN mn (rowP i).1 (rowP i).2 s = umin) (hu2 : uscaleN mx (rowP i).1 (rowP i).2 s = umax) (hu3 : uscaleN m (rowP i).1 (rowP i).2 s = um) (hb1 : umin < 1152921504606846976) (hb2 : umax < 1152921504606846976) (hb3 : um < 1152921504606846976) (hb4 : 1 ≤ umax) :
    Calls Tryd.prog 67 #[.int .u64 (m : Int), .int .i64 e] w fun e' w' =>
      e' = .returned (.tuple #[.int .u64 (shortD umin umax um odd : Int), .int .i64 ((shortTen umin umax odd : Int) - p)]) ∧ Below w.heap.size w w' := by
  have ho : odd ≤ 1 := by rw [h5]; exact Nat.le_of_lt_succ (Nat.mod_lt _ (by decide))
  have hw2 : 2 ^ (10 + t) ≤ 4611686018427387904 := Nat.le_trans (Nat.pow_le_pow_right (by decide) (show 10 + t ≤ 62 by omega)) (by decide)
  obtain ⟨W, hW⟩ : ∃ W, W = 2 ^ (10 + t) := ⟨_, rfl⟩
  rw [← hW] at h3 h4 hw2
  have hr := row_any i hi
  unfold rowOk at hr
  simp only [Bool.and_eq_true, decide_eq_true_eq] at hr
  obtain ⟨⟨⟨⟨r1, r2⟩, r3⟩, _⟩, _⟩ := hr
  have hl1 : -5000 ≤ lp10 p ∧ lp10 p ≤ 5000 := by unfold lp10; omega
  have hpl : p * 108853 / 32768 = lp10 p := rfl
  have C77 := Lib.hid (prescale_sc i p e (lp10 p) s w hG hp hi (by omega) (by omega) hl1.1 hl1.2 hs)
  have prod : ∀ x : Nat, 4611686018427387904 ≤ x → 18446744073709551616 ≤ x * (rowP i).1 := fun x hx => Nat.le_trans (by decide : 18446744073709551616 ≤ 4611686018427387904 * 9223372036854775808) (Nat.mul_le_mul hx r2)
  have C79a := Lib.hid (uscale_sc w mn _ _ s (by omega) r1 r3 hs1 (prod mn (by omega)))
  have C79b := Lib.hid (uscale_sc w mx _ _ s (by omega) r1 r3 hs1 (prod mx (by omega)))
  have C79c := Lib.hid (uscale_sc w m _ _ s (by omega) r1 r3 hs1 (prod m (by omega)))
  rw [hu1] at C79a
  rw [hu2] at C79b
  rw [hu3] at C79c
  obtain ⟨v, hv⟩ : ∃ v, v = umin + odd := ⟨_, rfl⟩
  obtain ⟨v2, hv2⟩ : ∃ v, v = umax - odd := ⟨_, rfl⟩
  obtain ⟨dmin, hdmin⟩ : ∃ v2, v2 = (v + 3) / 4 := ⟨_, rfl⟩
  obtain ⟨dmax, hdmax⟩ : ∃ d, d = v2 / 4 := ⟨_, rfl⟩
  obtain ⟨q, hq⟩ : ∃ q, q = dmax / 10 := ⟨_, rfl⟩
  have C80a := Lib.hid (nudge_any umin v odd (by omega) (by omega) (by omega))
  have C80b := Lib.hid (nudge_any umax v2 (-(odd : Int)) (by omega) (by omega) (by omega))
  have C81 := Lib.hid (ceil_any v (by omega))
  have C82 := Lib.hid (floor_any v2 (by omega))
  have C83 := Lib.hid (fun w => round_big um w (by omega))
  rw [← hdmin] at C81
  rw [← hdmax] at C82
  have hD : shortD umin umax um odd = if dmin ≤ q * 10 then q else if dmin < dmax then roundU um else dmin := by rw [shortD, hq, hdmin, hdmax, hv, hv2]
  have hT : shortTen umin umax odd = if dmin ≤ q * 10 then 1 else 0 := by rw [shortTen, hq, hdmin, hdmax, hv, hv2]
  have H := Lib.hid (And.intro hD (And.intro hT (And.intro h2 (And.intro h3 (And.intro h4 h5)))))
  have s1 : decide (-1085 ≤ e) = false := decide_eq_false (by omega)
  have s0 : decide (-1085 < e) = false := decide_eq_false (by omega)
  have s6 : (-1085 : Int) - e = (t : Int) := by omega
  have s5 : (e + (11 + (t : Int))) * 78913 / 262144 = -p := by rw [h2, show e + (11 + (t : Int)) = -1085 + 11 by omega]; unfold p10; omega
  have s7 : (2 : Int) ^ (10 + t) = (W : Int) := by rw [hW]; simp
  have s2 : (m : Int) - (W : Int) = (mn : Int) := by omega
  have s3 : (m : Int) + (W : Int) = (mx : Int) := by omega
  obtain ⟨y, hy⟩ : ∃ y, y = m / 2 ^ (11 + t) := ⟨_, rfl⟩
  have hyl : y < 9223372036854775808 := by
    rw [hy, Nat.div_lt_iff_lt_mul (Nat.pow_pos (by decide))]
    have : 2 ^ 1 ≤ 2 ^ (11 + t) := Nat.pow_le_pow_right (by decide) (by omega)
    omega
  have s8 : (m : Int) / 2 ^ (11 + t) = (y : Int) := by rw [hy]; simp
  rw [← hy] at h5
  have s4 : bits .and .i64 (y : Int) 1 = (odd : Int) := by
    have := and_i64_nat y 1 hyl (by omega)
    rw [Nat.and_one_is_mod] at this
    rw [h5]
    exact this
  have hmn : mn < 18446744073709551616 := by omega
  have b1 : dmin < 1152921504606846976 := by omega
  have b2 : dmax < 1152921504606846976 := by omega
  have b3 : q < 1152921504606846976 := by omega
  clear hW hy hD hT h1 h2 h3 h4 h5 hv hv2 hdmin hdmax hu1 hu2 hu3 hG hi hp hs hs1 r1 r2 r3 prod
  go_enter Tryd.func67, Tryd.ntmps67
  go_upto_region 27 with (first
    | (go_at_call 62; refine (log10_any _ (by omega) (by omega) _).mono ?_; rintro e1 w1 ⟨rfl, rfl⟩))
  have hqq : (dmax : Int) / 10 = (q : Int) := by omega
  have Q9 := Lib.hid hq
  clear hq
  by_cases hbr : dmin ≤ q * 10
  · have t1 : decide ((dmin : Int) ≤ (q : Int) * 10) = true := decide_eq_true (by omega)
    have t2 : decide (dmin ≤ q * 10) = true := decide_eq_true hbr
    have HB := Lib.hid hbr
    clear hbr
    go_wp2_with (first
      | (go_at_call 78; refine (log2_any _ (by omega) (by omega) _).mono ?_; rintro e1 w2 ⟨rfl, rfl⟩)
      | (go_at_call 77; refine C77.out.mono ?_; rintro e1 w3 ⟨rfl, S3⟩)
      | (go_at_call 79; (with_reducible refine (C79a.out _ S3).mono ?_); clear S3; rintro e1 w4 ⟨rfl, S4⟩)
      | (go_at_call 80; (with_reducible refine (C80a.out _).mono ?_); rintro e1 w5 ⟨rfl, rfl⟩)
      | (go_at_call 81; (with_reducible refine (C81.out _).mono ?_); rintro e1 w5 ⟨rfl, rfl⟩)
      | (go_at_call 79; (with_reducible refine (C79b.out _ S4).mono ?_); clear S4; rintro e1 w6 ⟨rfl, S6⟩)
      | (go_at_call 80; (with_reducible refine (C80b.out _).mono ?_); rintro e1 w5 ⟨rfl, rfl⟩)
      | (go_at_call 82; (with_reducible refine (C82.out _).mono ?_); rintro e1 w5 ⟨rfl, rfl⟩)
      | (go_at_call 79; (with_reducible refine (C79c.out _ S6).mono ?_); clear S6; rintro e1 w7 ⟨rfl, S7⟩)
      | (go_at_call 83; (with_reducible refine (C83.out _).mono ?_); rintro e1 w5 ⟨rfl, rfl⟩))
    go_returns
    exact ⟨by rw [H.out.1, H.out.2.1, if_pos HB.out, if_pos HB.out]; exact congrArg (fun n => Ending.returned (.tuple #[.int .u64 (q : Int), .int .i64 n])) (by omega), S6.2.2⟩
  · have t1 : decide ((dmin : Int) ≤ (q : Int) * 10) = false := decide_eq_false (by omega)
    have t2 : decide (dmin ≤ q * 10) = false := decide_eq_false hbr
    have HB := Lib.hid hbr
    clear hbr
    by_cases hlt : dmin < dmax
    · have t3 : decide (dmin < dmax) = true := decide_eq_true hlt
      have HL := Lib.hid hlt
      clear hlt
      go_wp2_with (first
      | (go_at_call 78; refine (log2_any _ (by omega) (by omega) _).mono ?_; rintro e1 w2 ⟨rfl, rfl⟩)
      | (go_at_call 77; refine C77.out.mono ?_; rintro e1 w3 ⟨rfl, S3⟩)
      | (go_at_call 79; (with_reducible refine (C79a.out _ S3).mono ?_); clear S3; rintro e1 w4 ⟨rfl, S4⟩)
      | (go_at_call 80; (with_reducible refine (C80a.out _).mono ?_); rintro e1 w5 ⟨rfl, rfl⟩)
      | (go_at_call 81; (with_reducible refine (C81.out _).mono ?_); rintro e1 w5 ⟨rfl, rfl⟩)
      | (go_at_call 79; (with_reducible refine (C79b.out _ S4).mono ?_); clear S4; rintro e1 w6 ⟨rfl, S6⟩)
      | (go_at_call 80; (with_reducible refine (C80b.out _).mono ?_); rintro e1 w5 ⟨rfl, rfl⟩)
      | (go_at_call 82; (with_reducible refine (C82.out _).mono ?_); rintro e1 w5 ⟨rfl, rfl⟩)
      | (go_at_call 79; (with_reducible refine (C79c.out _ S6).mono ?_); clear S6; rintro e1 w7 ⟨rfl, S7⟩)
      | (go_at_call 83; (with_reducible refine (C83.out _).mono ?_); rintro e1 w5 ⟨rfl, rfl⟩))
      go_returns
      exact ⟨by rw [H.out.1, H.out.2.1, if_neg HB.out, if_neg HB.out, if_pos HL.out]; exact congrArg (fun n => Ending.returned (.tuple #[.int .u64 (roundU um : Int), .int .i64 n])) (by omega), S7.2.2⟩
    · have t3 : decide (dmin < dmax) = false := decide_eq_false hlt
      have HL := Lib.hid hlt
      clear hlt
      go_wp2_with (first
      | (go_at_call 78; refine (log2_any _ (by omega) (by omega) _).mono ?_; rintro e1 w2 ⟨rfl, rfl⟩)
      | (go_at_call 77; refine C77.out.mono ?_; rintro e1 w3 ⟨rfl, S3⟩)
      | (go_at_call 79; (with_reducible refine (C79a.out _ S3).mono ?_); clear S3; rintro e1 w4 ⟨rfl, S4⟩)
      | (go_at_call 80; (with_reducible refine (C80a.out _).mono ?_); rintro e1 w5 ⟨rfl, rfl⟩)
      | (go_at_call 81; (with_reducible refine (C81.out _).mono ?_); rintro e1 w5 ⟨rfl, rfl⟩)
      | (go_at_call 79; (with_reducible refine (C79b.out _ S4).mono ?_); clear S4; rintro e1 w6 ⟨rfl, S6⟩)
      | (go_at_call 80; (with_reducible refine (C80b.out _).mono ?_); rintro e1 w5 ⟨rfl, rfl⟩)
      | (go_at_call 82; (with_reducible refine (C82.out _).mono ?_); rintro e1 w5 ⟨rfl, rfl⟩)
      | (go_at_call 79; (with_reducible refine (C79c.out _ S6).mono ?_); clear S6; rintro e1 w7 ⟨rfl, S7⟩)
      | (go_at_call 83; (with_reducible refine (C83.out _).mono ?_); rintro e1 w5 ⟨rfl, rfl⟩))
      go_returns
      exact ⟨by rw [H.out.1, H.out.2.1, if_neg HB.out, if_neg HB.out, if_neg HL.out]; exact congrArg (fun n => Ending.returned (.tuple #[.int .u64 (dmin : Int), .int .i64 n])) (by omega), S6.2.2⟩
set_option maxRecDepth 100000 in
set_option maxHeartbeats 4000000 in
theorem short67G (m t : Nat) (e p : Int) (mn mx odd i s umin umax um : Nat) (w : World) (hG : Glob w) (hm : m < 18446744073709551616) (hm1 : 9223372036854775808 ≤ m) (hmx : mx < 18446744073709551616) (_he1 : -1137 ≤ e) (_he2 : e ≤ 1000)
    (hq1 : ((m : Int) == 9223372036854775808) = true) (ht1 : 1 ≤ t) (ht2 : t ≤ 52) (h1 : e = -1085 - (t : Int)) (h2 : p = p10 (-1074)) (h3 : mn = m - 2 ^ (10 + t)) (h4 : mx = m + 2 ^ (10 + t)) (h5 : odd = m / 2 ^ (11 + t) % 2)
    (hi : i < 696) (hp : p + 348 = (i : Int)) (hs : -(e + lp10 p + 3) = (s : Int)) (hs1 : s ≤ 63)
    (hu1 : uscaleN mn (rowP i).1 (rowP i).2 s = umin) (hu2 : uscaleN mx (rowP i).1 (rowP i).2 s = umax) (hu3 : uscaleN m (rowP i).1 (rowP i).2 s = um) (hb1 : umin < 1152921504606846976) (hb2 : umax < 1152921504606846976) (hb3 : um < 1152921504606846976) (hb4 : 1 ≤ umax) :
    Calls Tryd.prog 67 #[.int .u64 (m : Int), .int .i64 e] w fun e' w' =>
      e' = .returned (.tuple #[.int .u64 (shortD umin umax um odd : Int), .int .i64 ((shortTen umin umax odd : Int) - p)]) ∧ Below w.heap.size w w' := by
  have ho : odd ≤ 1 := by rw [h5]; exact Nat.le_of_lt_succ (Nat.mod_lt _ (by decide))
  have hw2 : 2 ^ (10 + t) ≤ 4611686018427387904 := Nat.le_trans (Nat.pow_le_pow_right (by decide) (show 10 + t ≤ 62 by omega)) (by decide)
  obtain ⟨W, hW⟩ : ∃ W, W = 2 ^ (10 + t) := ⟨_, rfl⟩
  rw [← hW] at h3 h4 hw2
  have hr := row_any i hi
  unfold rowOk at hr
  simp only [Bool.and_eq_true, decide_eq_true_eq] at hr
  obtain ⟨⟨⟨⟨r1, r2⟩, r3⟩, _⟩, _⟩ := hr
  have hl1 : -5000 ≤ lp10 p ∧ lp10 p ≤ 5000 := by unfold lp10; omega
  have hpl : p * 108853 / 32768 = lp10 p := rfl
  have C77 := Lib.hid (prescale_sc i p e (lp10 p) s w hG hp hi (by omega) (by omega) hl1.1 hl1.2 hs)
  have prod : ∀ x : Nat, 4611686018427387904 ≤ x → 18446744073709551616 ≤ x * (rowP i).1 := fun x hx => Nat.le_trans (by decide : 18446744073709551616 ≤ 4611686018427387904 * 9223372036854775808) (Nat.mul_le_mul hx r2)
  have C79a := Lib.hid (uscale_sc w mn _ _ s (by omega) r1 r3 hs1 (prod mn (by omega)))
  have C79b := Lib.hid (uscale_sc w mx _ _ s (by omega) r1 r3 hs1 (prod mx (by omega)))
  have C79c := Lib.hid (uscale_sc w m _ _ s (by omega) r1 r3 hs1 (prod m (by omega)))
  rw [hu1] at C79a
  rw [hu2] at C79b
  rw [hu3] at C79c
  obtain ⟨v, hv⟩ : ∃ v, v = umin + odd := ⟨_, rfl⟩
  obtain ⟨v2, hv2⟩ : ∃ v, v = umax - odd := ⟨_, rfl⟩
  obtain ⟨dmin, hdmin⟩ : ∃ v2, v2 = (v + 3) / 4 := ⟨_, rfl⟩
  obtain ⟨dmax, hdmax⟩ : ∃ d, d = v2 / 4 := ⟨_, rfl⟩
  obtain ⟨q, hq⟩ : ∃ q, q = dmax / 10 := ⟨_, rfl⟩
  have C80a := Lib.hid (nudge_any umin v odd (by omega) (by omega) (by omega))
  have C80b := Lib.hid (nudge_any umax v2 (-(odd : Int)) (by omega) (by omega) (by omega))
  have C81 := Lib.hid (ceil_any v (by omega))
  have C82 := Lib.hid (floor_any v2 (by omega))
  have C83 := Lib.hid (fun w => round_big um w (by omega))
  rw [← hdmin] at C81
  rw [← hdmax] at C82
  have hD : shortD umin umax um odd = if dmin ≤ q * 10 then q else if dmin < dmax then roundU um else dmin := by rw [shortD, hq, hdmin, hdmax, hv, hv2]
  have hT : shortTen umin umax odd = if dmin ≤ q * 10 then 1 else 0 := by rw [shortTen, hq, hdmin, hdmax, hv, hv2]
  have H := Lib.hid (And.intro hD (And.intro hT (And.intro h2 (And.intro h3 (And.intro h4 h5)))))
  have s1 : decide (-1085 ≤ e) = false := decide_eq_false (by omega)
  have s0 : decide (-1085 < e) = false := decide_eq_false (by omega)
  have s6 : (-1085 : Int) - e = (t : Int) := by omega
  have s5 : (e + (11 + (t : Int))) * 78913 / 262144 = -p := by rw [h2, show e + (11 + (t : Int)) = -1085 + 11 by omega]; unfold p10; omega
  have s7 : (2 : Int) ^ (10 + t) = (W : Int) := by rw [hW]; simp
  have s2 : (m : Int) - (W : Int) = (mn : Int) := by omega
  have s3 : (m : Int) + (W : Int) = (mx : Int) := by omega
  obtain ⟨y, hy⟩ : ∃ y, y = m / 2 ^ (11 + t) := ⟨_, rfl⟩
  have hyl : y < 9223372036854775808 := by
    rw [hy, Nat.div_lt_iff_lt_mul (Nat.pow_pos (by decide))]
    have : 2 ^ 1 ≤ 2 ^ (11 + t) := Nat.pow_le_pow_right (by decide) (by omega)
    omega
  have s8 : (m : Int) / 2 ^ (11 + t) = (y : Int) := by rw [hy]; simp
  rw [← hy] at h5
  have s4 : bits .and .i64 (y : Int) 1 = (odd : Int) := by
    have := and_i64_nat y 1 hyl (by omega)
    rw [Nat.and_one_is_mod] at this
    rw [h5]
    exact this
  have hmn : mn < 18446744073709551616 := by omega
  have b1 : dmin < 1152921504606846976 := by omega
  have b2 : dmax < 1152921504606846976 := by omega
  have b3 : q < 1152921504606846976 := by omega
  clear hW hy hD hT h1 h2 h3 h4 h5 hv hv2 hdmin hdmax hu1 hu2 hu3 hG hi hp hs hs1 r1 r2 r3 prod
  go_enter Tryd.func67, Tryd.ntmps67
  go_upto_region 27 with (first
    | (go_at_call 62; refine (log10_any _ (by omega) (by omega) _).mono ?_; rintro e1 w1 ⟨rfl, rfl⟩))
  have hqq : (dmax : Int) / 10 = (q : Int) := by omega
  have Q9 := Lib.hid hq
  clear hq
  by_cases hbr : dmin ≤ q * 10
  · have t1 : decide ((dmin : Int) ≤ (q : Int) * 10) = true := decide_eq_true (by omega)
    have t2 : decide (dmin ≤ q * 10) = true := decide_eq_true hbr
    have HB := Lib.hid hbr
    clear hbr
    go_wp2_with (first
      | (go_at_call 78; refine (log2_any _ (by omega) (by omega) _).mono ?_; rintro e1 w2 ⟨rfl, rfl⟩)
      | (go_at_call 77; refine C77.out.mono ?_; rintro e1 w3 ⟨rfl, S3⟩)
      | (go_at_call 79; (with_reducible refine (C79a.out _ S3).mono ?_); clear S3; rintro e1 w4 ⟨rfl, S4⟩)
      | (go_at_call 80; (with_reducible refine (C80a.out _).mono ?_); rintro e1 w5 ⟨rfl, rfl⟩)
      | (go_at_call 81; (with_reducible refine (C81.out _).mono ?_); rintro e1 w5 ⟨rfl, rfl⟩)
      | (go_at_call 79; (with_reducible refine (C79b.out _ S4).mono ?_); clear S4; rintro e1 w6 ⟨rfl, S6⟩)
      | (go_at_call 80; (with_reducible refine (C80b.out _).mono ?_); rintro e1 w5 ⟨rfl, rfl⟩)
      | (go_at_call 82; (with_reducible refine (C82.out _).mono ?_); rintro e1 w5 ⟨rfl, rfl⟩)
      | (go_at_call 79; (with_reducible refine (C79c.out _ S6).mono ?_); clear S6; rintro e1 w7 ⟨rfl, S7⟩)
      | (go_at_call 83; (with_reducible refine (C83.out _).mono ?_); rintro e1 w5 ⟨rfl, rfl⟩))
    go_returns
    exact ⟨by rw [H.out.1, H.out.2.1, if_pos HB.out, if_pos HB.out]; exact congrArg (fun n => Ending.returned (.tuple #[.int .u64 (q : Int), .int .i64 n])) (by omega), S6.2.2⟩
  · have t1 : decide ((dmin : Int) ≤ (q : Int) * 10) = false := decide_eq_false (by omega)
    have t2 : decide (dmin ≤ q * 10) = false := decide_eq_false hbr
    have HB := Lib.hid hbr
    clear hbr
    by_cases hlt : dmin < dmax
    · have t3 : decide (dmin < dmax) = true := decide_eq_true hlt
      have HL := Lib.hid hlt
      clear hlt
      go_wp2_with (first
      | (go_at_call 78; refine (log2_any _ (by omega) (by omega) _).mono ?_; rintro e1 w2 ⟨rfl, rfl⟩)
      | (go_at_call 77; refine C77.out.mono ?_; rintro e1 w3 ⟨rfl, S3⟩)
      | (go_at_call 79; (with_reducible refine (C79a.out _ S3).mono ?_); clear S3; rintro e1 w4 ⟨rfl, S4⟩)
      | (go_at_call 80; (with_reducible refine (C80a.out _).mono ?_); rintro e1 w5 ⟨rfl, rfl⟩)
      | (go_at_call 81; (with_reducible refine (C81.out _).mono ?_); rintro e1 w5 ⟨rfl, rfl⟩)
      | (go_at_call 79; (with_reducible refine (C79b.out _ S4).mono ?_); clear S4; rintro e1 w6 ⟨rfl, S6⟩)
      | (go_at_call 80; (with_reducible refine (C80b.out _).mono ?_); rintro e1 w5 ⟨rfl, rfl⟩)
      | (go_at_call 82; (with_reducible refine (C82.out _).mono ?_); rintro e1 w5 ⟨rfl, rfl⟩)
      | (go_at_call 79; (with_reducible refine (C79c.out _ S6).mono ?_); clear S6; rintro e1 w7 ⟨rfl, S7⟩)
      | (go_at_call 83; (with_reducible refine (C83.out _).mono ?_); rintro e1 w5 ⟨rfl, rfl⟩))
      go_returns
      exact ⟨by rw [H.out.1, H.out.2.1, if_neg HB.out, if_neg HB.out, if_pos HL.out]; exact congrArg (fun n => Ending.returned (.tuple #[.int .u64 (roundU um : Int), .int .i64 n])) (by omega), S7.2.2⟩
    · have t3 : decide (dmin < dmax) = false := decide_eq_false hlt
      have HL := Lib.hid hlt
      clear hlt
      go_wp2_with (first
      | (go_at_call 78; refine (log2_any _ (by omega) (by omega) _).mono ?_; rintro e1 w2 ⟨rfl, rfl⟩)
      | (go_at_call 77; refine C77.out.mono ?_; rintro e1 w3 ⟨rfl, S3⟩)
      | (go_at_call 79; (with_reducible refine (C79a.out _ S3).mono ?_); clear S3; rintro e1 w4 ⟨rfl, S4⟩)
      | (go_at_call 80; (with_reducible refine (C80a.out _).mono ?_); rintro e1 w5 ⟨rfl, rfl⟩)
      | (go_at_call 81; (with_reducible refine (C81.out _).mono ?_); rintro e1 w5 ⟨rfl, rfl⟩)
      | (go_at_call 79; (with_reducible refine (C79b.out _ S4).mono ?_); clear S4; rintro e1 w6 ⟨rfl, S6⟩)
      | (go_at_call 80; (with_reducible refine (C80b.out _).mono ?_); rintro e1 w5 ⟨rfl, rfl⟩)
      | (go_at_call 82; (with_reducible refine (C82.out _).mono ?_); rintro e1 w5 ⟨rfl, rfl⟩)
      | (go_at_call 79; (with_reducible refine (C79c.out _ S6).mono ?_); clear S6; rintro e1 w7 ⟨rfl, S7⟩)
      | (go_at_call 83; (with_reducible refine (C83.out _).mono ?_); rintro e1 w5 ⟨rfl, rfl⟩))
      go_returns
      exact ⟨by rw [H.out.1, H.out.2.1, if_neg HB.out, if_neg HB.out, if_neg HL.out]; exact congrArg (fun n => Ending.returned (.tuple #[.int .u64 (dmin : Int), .int .i64 n])) (by omega), S6.2.2⟩
end Go.Proofs.YtnfddblpenninaaDoor
