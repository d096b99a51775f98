/- The shortest digits, walked. -/
import Derived.Test.YtnfddblpenninaaDoorMgL
import Derived.Deep.DeepCutAuto
namespace Go.Proofs.YtnfddblpenninaaDoor
open Go.RowKit

theorem and_i64_nat (a b : Nat) (ha : a < 9223372036854775808) (hb : b < 9223372036854775808) : bits .and .i64 (a : Int) (b : Int) = ((a &&& b : Nat) : Int) := by
  have hx : a &&& b < 2 ^ 63 := Nat.and_lt_two_pow _ (by omega)
  have h1 : (BitVec.ofInt 64 (a : Int)).toNat = a := by
    rw [BitVec.ofInt_natCast, BitVec.toNat_ofNat]; exact Nat.mod_eq_of_lt (by omega)
  have h2 : (BitVec.ofInt 64 (b : Int)).toNat = b := by
    rw [BitVec.ofInt_natCast, BitVec.toNat_ofNat]; exact Nat.mod_eq_of_lt (by omega)
  show IntKind.i64.wrap ((BitVec.ofInt 64 (a : Int) &&& BitVec.ofInt 64 (b : Int)).toNat : Int) = _
  rw [BitVec.toNat_and, h1, h2, IntKind.wrap_i64]
  omega
/-- A scaler made in memory, and nothing else changed. -/
def Sc (w0 : World) (g hi lo : Nat) (s : Int) (w : World) : Prop := Scaler w g hi lo s ∧ g < w.heap.size ∧ Below g w0 w
theorem Scaler.below {w w' : World} {g hi lo : Nat} {s : Int} (h : Scaler w g hi lo s) (hg : g < w.heap.size) (hb : Below w.heap.size w w') : Scaler w' g hi lo s :=
  ⟨(hb.cell (p := ⟨g, 0, none⟩) hg).trans h.1, (hb.cell (p := ⟨g, 1, none⟩) hg).trans h.2.1, (hb.cell (p := ⟨g, 2, none⟩) hg).trans h.2.2⟩
theorem uscale_sc (w0 : World) (x hi lo s : Nat) (hx : x < 18446744073709551616) (hhi : hi < 18446744073709551616) (hlo : lo < 18446744073709551616) (hs : s ≤ 63) (hp : 18446744073709551616 ≤ x * hi) (w : World) (hS : Sc w0 w0.heap.size hi lo s w) :
    Calls Tryd.prog 79 #[.int .u64 (x : Int), .pointer (some ⟨w0.heap.size, 0, none⟩)] w fun e w' => e = .returned (.int .u64 (uscaleN x hi lo s : Int)) ∧ Sc w0 w0.heap.size hi lo s w' :=
  (uscale_walk w0.heap.size x hi lo s hx hhi hlo hs w hS.2.1 hS.1 hp).mono fun _ _ ⟨h1, h2⟩ => ⟨h1, hS.1.below hS.2.1 h2, Nat.lt_of_lt_of_le hS.2.1 h2.size, below_next hS.2.2 h2⟩
theorem prescale_sc (i : Nat) (p e lp s : Int) (w : World) (hG : Glob w) (hp : p + 348 = (i : Int)) (hi : i < 696) (he1 : -5000 ≤ e) (he2 : e ≤ 5000) (hl1 : -5000 ≤ lp) (hl2 : lp ≤ 5000) (hs : -(e + lp + 3) = s) :
    Calls Tryd.prog 77 #[.pointer (some ⟨w.heap.size, 0, none⟩), .int .i64 e, .int .i64 p, .int .i64 lp] (w.alloc (.cells #[.int .u64 0, .int .u64 0, .int .i64 0] 119)) fun e' w' => e' = .returned (.tuple #[]) ∧ Sc w w.heap.size (rowP i).1 (rowP i).2 s w' := by
  have hW := Whole.new w 119 #[.int .u64 0, .int .u64 0, .int .i64 0]
  have hB0 : Below w.heap.size w (w.alloc (.cells #[.int .u64 0, .int .u64 0, .int .i64 0] 119)) := (Below.refl w.heap.size w).alloc (Nat.le_refl _) _
  refine (prescale_walk w.heap.size i p e lp _ _ (hG.below hB0) hW rfl hG.big hp hi he1 he2 hl1 hl2).mono fun _ _ ⟨h1, h2, h3⟩ => ⟨h1, ?_, ?_, ?_⟩
  · rw [← hs]; exact h2
  · have := h3.size
    simp at this
    omega
  · exact hB0.trans (h3.below (by simp) (by rintro k rfl; exact Nat.le_refl _))

/-- The ends of the interval, as 'shortFloat' takes them. -/
def Ends (minE z0 : Int) (m : Nat) (e : Int) (p : Int) (mn mx odd : Nat) : Prop :=
  (m = 9223372036854775808 ∧ minE < e ∧ p = p10S (e + z0) ∧ mn = m - 2 ^ (z0 - 2).toNat ∧ mx = m + 2 ^ (z0 - 1).toNat ∧ odd = 0) ∨
  (¬(m = 9223372036854775808 ∧ minE < e) ∧ minE ≤ e ∧ p = p10 (e + z0) ∧ mn = m - 2 ^ (z0 - 1).toNat ∧ mx = m + 2 ^ (z0 - 1).toNat ∧ odd = m / 2 ^ z0.toNat % 2) ∨
  (e < minE ∧ p = p10 (minE + z0) ∧ mn = m - 2 ^ (z0 + (minE - e) - 1).toNat ∧ mx = m + 2 ^ (z0 + (minE - e) - 1).toNat ∧ odd = m / 2 ^ (z0 + (minE - e)).toNat % 2)

set_option maxRecDepth 100000 in
set_option maxHeartbeats 4000000 in
theorem short67A (m : Nat) (e p : Int) (mn mx odd i s umin umax um : Nat) (w : World) (hG : Glob w) (hm : m < 18446744073709551616) (hm1 : 9223372036854775808 ≤ m) (hmx : mx < 18446744073709551616) (he1 : -1137 ≤ e) (he2 : e ≤ 1000)
    (hq1 : ((m : Int) == 9223372036854775808) = true) (h1 : -1085 < e) (h2 : p = p10S (e + 11)) (h3 : mn = m - 512) (h4 : mx = m + 1024) (h5 : odd = m / 2048 % 2)
    (hi : i < 696) (hp : p + 348 = (i : Int)) (hs : -(e + lp10 p + 3) = (s : Int)) (hs1 : s ≤ 63)
    (hu1 : uscaleN mn (rowP i).1 (rowP i).2 s = umin) (hu2 : uscaleN mx (rowP i).1 (rowP i).2 s = umax) (hu3 : uscaleN m (rowP i).1 (rowP i).2 s = um) (hb1 : umin < 1152921504606846976) (hb2 : umax < 1152921504606846976) (hb3 : um < 1152921504606846976) (hb4 : 1 ≤ umax) :
    Calls Tryd.prog 67 #[.int .u64 (m : Int), .int .i64 e] w fun e' w' =>
      e' = .returned (.tuple #[.int .u64 (shortD umin umax um odd : Int), .int .i64 ((shortTen umin umax odd : Int) - p)]) ∧ Below w.heap.size w w' := by
  have hr := row_any i hi
  unfold rowOk at hr
  simp only [Bool.and_eq_true, decide_eq_true_eq] at hr
  obtain ⟨⟨⟨⟨r1, r2⟩, r3⟩, _⟩, _⟩ := hr
  have hl1 : -5000 ≤ lp10 p ∧ lp10 p ≤ 5000 := by unfold lp10; omega
  have hpl : p * 108853 / 32768 = lp10 p := rfl
  have C77 := Lib.hid (prescale_sc i p e (lp10 p) s w hG hp hi (by omega) (by omega) hl1.1 hl1.2 hs)
  have prod : ∀ x : Nat, 4611686018427387904 ≤ x → 18446744073709551616 ≤ x * (rowP i).1 := fun x hx => Nat.le_trans (by decide : 18446744073709551616 ≤ 4611686018427387904 * 9223372036854775808) (Nat.mul_le_mul hx r2)
  have C79a := Lib.hid (uscale_sc w mn _ _ s (by omega) r1 r3 hs1 (prod mn (by omega)))
  have C79b := Lib.hid (uscale_sc w mx _ _ s (by omega) r1 r3 hs1 (prod mx (by omega)))
  have C79c := Lib.hid (uscale_sc w m _ _ s (by omega) r1 r3 hs1 (prod m (by omega)))
  rw [hu1] at C79a
  rw [hu2] at C79b
  rw [hu3] at C79c
  have ho : odd ≤ 1 := by omega
  obtain ⟨v, hv⟩ : ∃ v, v = umin + odd := ⟨_, rfl⟩
  obtain ⟨v2, hv2⟩ : ∃ v, v = umax - odd := ⟨_, rfl⟩
  obtain ⟨dmin, hdmin⟩ : ∃ v2, v2 = (v + 3) / 4 := ⟨_, rfl⟩
  obtain ⟨dmax, hdmax⟩ : ∃ d, d = v2 / 4 := ⟨_, rfl⟩
  obtain ⟨q, hq⟩ : ∃ q, q = dmax / 10 := ⟨_, rfl⟩
  have C80a := Lib.hid (nudge_any umin v odd (by omega) (by omega) (by omega))
  have C80b := Lib.hid (nudge_any umax v2 (-(odd : Int)) (by omega) (by omega) (by omega))
  have C81 := Lib.hid (ceil_any v (by omega))
  have C82 := Lib.hid (floor_any v2 (by omega))
  have C83 := Lib.hid (fun w => round_big um w (by omega))
  rw [← hdmin] at C81
  rw [← hdmax] at C82
  have hD : shortD umin umax um odd = if dmin ≤ q * 10 then q else if dmin < dmax then roundU um else dmin := by rw [shortD, hq, hdmin, hdmax, hv, hv2]
  have hT : shortTen umin umax odd = if dmin ≤ q * 10 then 1 else 0 := by rw [shortTen, hq, hdmin, hdmax, hv, hv2]
  have H := Lib.hid (And.intro hD (And.intro hT (And.intro h2 (And.intro h3 (And.intro h4 h5)))))
  have s1 : decide (-1085 < e) = true := decide_eq_true h1
  have s2 : (m : Int) - 512 = (mn : Int) := by omega
  have s3 : (m : Int) + 1024 = (mx : Int) := by omega
  have s4 : bits .and .i64 ((m : Int) / 2048) 1 = (odd : Int) := by
    have := and_i64_nat (m / 2048) 1 (by omega) (by omega)
    rw [Nat.and_one_is_mod] at this
    rw [h5]
    exact this
  have s5 : ((e + 11) * 631305 - 261663) / 2097152 = -p := by rw [h2]; unfold p10S; omega
  have b1 : dmin < 1152921504606846976 := by omega
  have b2 : dmax < 1152921504606846976 := by omega
  have b3 : q < 1152921504606846976 := by omega
  clear hD hT h1 h2 h3 h4 h5 hv hv2 hdmin hdmax hu1 hu2 hu3 hG hi hp hs hs1 r1 r2 r3 prod
  go_enter Tryd.func67, Tryd.ntmps67
  go_upto_region 27 with (first
    | (go_at_call 76; refine (skewed_any _ (by omega) (by omega) _).mono ?_; rintro e1 w1 ⟨rfl, rfl⟩))
  have hqq : (dmax : Int) / 10 = (q : Int) := by omega
  have Q9 := Lib.hid hq
  clear hq
  by_cases hbr : dmin ≤ q * 10
  · have t1 : decide ((dmin : Int) ≤ (q : Int) * 10) = true := decide_eq_true (by omega)
    have t2 : decide (dmin ≤ q * 10) = true := decide_eq_true hbr
    have HB := Lib.hid hbr
    clear hbr
    go_wp2_with (first
      | (go_at_call 78; refine (log2_any _ (by omega) (by omega) _).mono ?_; rintro e1 w2 ⟨rfl, rfl⟩)
      | (go_at_call 77; refine C77.out.mono ?_; rintro e1 w3 ⟨rfl, S3⟩)
      | (go_at_call 79; (with_reducible refine (C79a.out _ S3).mono ?_); clear S3; rintro e1 w4 ⟨rfl, S4⟩)
      | (go_at_call 80; (with_reducible refine (C80a.out _).mono ?_); rintro e1 w5 ⟨rfl, rfl⟩)
      | (go_at_call 81; (with_reducible refine (C81.out _).mono ?_); rintro e1 w5 ⟨rfl, rfl⟩)
      | (go_at_call 79; (with_reducible refine (C79b.out _ S4).mono ?_); clear S4; rintro e1 w6 ⟨rfl, S6⟩)
      | (go_at_call 80; (with_reducible refine (C80b.out _).mono ?_); rintro e1 w5 ⟨rfl, rfl⟩)
      | (go_at_call 82; (with_reducible refine (C82.out _).mono ?_); rintro e1 w5 ⟨rfl, rfl⟩)
      | (go_at_call 79; (with_reducible refine (C79c.out _ S6).mono ?_); clear S6; rintro e1 w7 ⟨rfl, S7⟩)
      | (go_at_call 83; (with_reducible refine (C83.out _).mono ?_); rintro e1 w5 ⟨rfl, rfl⟩))
    go_returns
    exact ⟨by rw [H.out.1, H.out.2.1, if_pos HB.out, if_pos HB.out]; exact congrArg (fun n => Ending.returned (.tuple #[.int .u64 (q : Int), .int .i64 n])) (by omega), S6.2.2⟩
  · have t1 : decide ((dmin : Int) ≤ (q : Int) * 10) = false := decide_eq_false (by omega)
    have t2 : decide (dmin ≤ q * 10) = false := decide_eq_false hbr
    have HB := Lib.hid hbr
    clear hbr
    by_cases hlt : dmin < dmax
    · have t3 : decide (dmin < dmax) = true := decide_eq_true hlt
      have HL := Lib.hid hlt
      clear hlt
      go_wp2_with (first
      | (go_at_call 78; refine (log2_any _ (by omega) (by omega) _).mono ?_; rintro e1 w2 ⟨rfl, rfl⟩)
      | (go_at_call 77; refine C77.out.mono ?_; rintro e1 w3 ⟨rfl, S3⟩)
      | (go_at_call 79; (with_reducible refine (C79a.out _ S3).mono ?_); clear S3; rintro e1 w4 ⟨rfl, S4⟩)
      | (go_at_call 80; (with_reducible refine (C80a.out _).mono ?_); rintro e1 w5 ⟨rfl, rfl⟩)
      | (go_at_call 81; (with_reducible refine (C81.out _).mono ?_); rintro e1 w5 ⟨rfl, rfl⟩)
      | (go_at_call 79; (with_reducible refine (C79b.out _ S4).mono ?_); clear S4; rintro e1 w6 ⟨rfl, S6⟩)
      | (go_at_call 80; (with_reducible refine (C80b.out _).mono ?_); rintro e1 w5 ⟨rfl, rfl⟩)
      | (go_at_call 82; (with_reducible refine (C82.out _).mono ?_); rintro e1 w5 ⟨rfl, rfl⟩)
      | (go_at_call 79; (with_reducible refine (C79c.out _ S6).mono ?_); clear S6; rintro e1 w7 ⟨rfl, S7⟩)
      | (go_at_call 83; (with_reducible refine (C83.out _).mono ?_); rintro e1 w5 ⟨rfl, rfl⟩))
      go_returns
      exact ⟨by rw [H.out.1, H.out.2.1, if_neg HB.out, if_neg HB.out, if_pos HL.out]; exact congrArg (fun n => Ending.returned (.tuple #[.int .u64 (roundU um : Int), .int .i64 n])) (by omega), S7.2.2⟩
    · have t3 : decide (dmin < dmax) = false := decide_eq_false hlt
      have HL := Lib.hid hlt
      clear hlt
      go_wp2_with (first
      | (go_at_call 78; refine (log2_any _ (by omega) (by omega) _).mono ?_; rintro e1 w2 ⟨rfl, rfl⟩)
      | (go_at_call 77; refine C77.out.mono ?_; rintro e1 w3 ⟨rfl, S3⟩)
      | (go_at_call 79; (with_reducible refine (C79a.out _ S3).mono ?_); clear S3; rintro e1 w4 ⟨rfl, S4⟩)
      | (go_at_call 80; (with_reducible refine (C80a.out _).mono ?_); rintro e1 w5 ⟨rfl, rfl⟩)
      | (go_at_call 81; (with_reducible refine (C81.out _).mono ?_); rintro e1 w5 ⟨rfl, rfl⟩)
      | (go_at_call 79; (with_reducible refine (C79b.out _ S4).mono ?_); clear S4; rintro e1 w6 ⟨rfl, S6⟩)
      | (go_at_call 80; (with_reducible refine (C80b.out _).mono ?_); rintro e1 w5 ⟨rfl, rfl⟩)
      | (go_at_call 82; (with_reducible refine (C82.out _).mono ?_); rintro e1 w5 ⟨rfl, rfl⟩)
      | (go_at_call 79; (with_reducible refine (C79c.out _ S6).mono ?_); clear S6; rintro e1 w7 ⟨rfl, S7⟩)
      | (go_at_call 83; (with_reducible refine (C83.out _).mono ?_); rintro e1 w5 ⟨rfl, rfl⟩))
      go_returns
      exact ⟨by rw [H.out.1, H.out.2.1, if_neg HB.out, if_neg HB.out, if_neg HL.out]; exact congrArg (fun n => Ending.returned (.tuple #[.int .u64 (dmin : Int), .int .i64 n])) (by omega), S6.2.2⟩
set_option maxRecDepth 100000 in
set_option maxHeartbeats 4000000 in
theorem short67B (m : Nat) (e p : Int) (mn mx odd i s umin umax um : Nat) (w : World) (hG : Glob w) (hm : m < 18446744073709551616) (hm1 : 9223372036854775808 ≤ m) (hmx : mx < 18446744073709551616) (he1 : -1137 ≤ e) (he2 : e ≤ 1000)
    (hq1 : ((m : Int) == 9223372036854775808) = false) (h1 : -1085 ≤ e) (h2 : p = p10 (e + 11)) (h3 : mn = m - 1024) (h4 : mx = m + 1024) (h5 : odd = m / 2048 % 2)
    (hi : i < 696) (hp : p + 348 = (i : Int)) (hs : -(e + lp10 p + 3) = (s : Int)) (hs1 : s ≤ 63)
    (hu1 : uscaleN mn (rowP i).1 (rowP i).2 s = umin) (hu2 : uscaleN mx (rowP i).1 (rowP i).2 s = umax) (hu3 : uscaleN m (rowP i).1 (rowP i).2 s = um) (hb1 : umin < 1152921504606846976) (hb2 : umax < 1152921504606846976) (hb3 : um < 1152921504606846976) (hb4 : 1 ≤ umax) :
    Calls Tryd.prog 67 #[.int .u64 (m : Int), .int .i64 e] w fun e' w' =>
      e' = .returned (.tuple #[.int .u64 (shortD umin umax um odd : Int), .int .i64 ((shortTen umin umax odd : Int) - p)]) ∧ Below w.heap.size w w' := by
  have hr := row_any i hi
  unfold rowOk at hr
  simp only [Bool.and_eq_true, decide_eq_true_eq] at hr
  obtain ⟨⟨⟨⟨r1, r2⟩, r3⟩, _⟩, _⟩ := hr
  have hl1 : -5000 ≤ lp10 p ∧ lp10 p ≤ 5000 := by unfold lp10; omega
  have hpl : p * 108853 / 32768 = lp10 p := rfl
  have C77 := Lib.hid (prescale_sc i p e (lp10 p) s w hG hp hi (by omega) (by omega) hl1.1 hl1.2 hs)
  have prod : ∀ x : Nat, 4611686018427387904 ≤ x → 18446744073709551616 ≤ x * (rowP i).1 := fun x hx => Nat.le_trans (by decide : 18446744073709551616 ≤ 4611686018427387904 * 9223372036854775808) (Nat.mul_le_mul hx r2)
  have C79a := Lib.hid (uscale_sc w mn _ _ s (by omega) r1 r3 hs1 (prod mn (by omega)))
  have C79b := Lib.hid (uscale_sc w mx _ _ s (by omega) r1 r3 hs1 (prod mx (by omega)))
  have C79c := Lib.hid (uscale_sc w m _ _ s (by omega) r1 r3 hs1 (prod m (by omega)))
  rw [hu1] at C79a
  rw [hu2] at C79b
  rw [hu3] at C79c
  have ho : odd ≤ 1 := by omega
  obtain ⟨v, hv⟩ : ∃ v, v = umin + odd := ⟨_, rfl⟩
  obtain ⟨v2, hv2⟩ : ∃ v, v = umax - odd := ⟨_, rfl⟩
  obtain ⟨dmin, hdmin⟩ : ∃ v2, v2 = (v + 3) / 4 := ⟨_, rfl⟩
  obtain ⟨dmax, hdmax⟩ : ∃ d, d = v2 / 4 := ⟨_, rfl⟩
  obtain ⟨q, hq⟩ : ∃ q, q = dmax / 10 := ⟨_, rfl⟩
  have C80a := Lib.hid (nudge_any umin v odd (by omega) (by omega) (by omega))
  have C80b := Lib.hid (nudge_any umax v2 (-(odd : Int)) (by omega) (by omega) (by omega))
  have C81 := Lib.hid (ceil_any v (by omega))
  have C82 := Lib.hid (floor_any v2 (by omega))
  have C83 := Lib.hid (fun w => round_big um w (by omega))
  rw [← hdmin] at C81
  rw [← hdmax] at C82
  have hD : shortD umin umax um odd = if dmin ≤ q * 10 then q else if dmin < dmax then roundU um else dmin := by rw [shortD, hq, hdmin, hdmax, hv, hv2]
  have hT : shortTen umin umax odd = if dmin ≤ q * 10 then 1 else 0 := by rw [shortTen, hq, hdmin, hdmax, hv, hv2]
  have H := Lib.hid (And.intro hD (And.intro hT (And.intro h2 (And.intro h3 (And.intro h4 h5)))))
  have s1 : decide (-1085 ≤ e) = true := decide_eq_true h1
  have s2 : (m : Int) - 1024 = (mn : Int) := by omega
  have s3 : (m : Int) + 1024 = (mx : Int) := by omega
  have s4 : bits .and .i64 ((m : Int) / 2048) 1 = (odd : Int) := by
    have := and_i64_nat (m / 2048) 1 (by omega) (by omega)
    rw [Nat.and_one_is_mod] at this
    rw [h5]
    exact this
  have s5 : (e + 11) * 78913 / 262144 = -p := by rw [h2]; unfold p10; omega
  have b1 : dmin < 1152921504606846976 := by omega
  have b2 : dmax < 1152921504606846976 := by omega
  have b3 : q < 1152921504606846976 := by omega
  clear hD hT h1 h2 h3 h4 h5 hv hv2 hdmin hdmax hu1 hu2 hu3 hG hi hp hs hs1 r1 r2 r3 prod
  go_enter Tryd.func67, Tryd.ntmps67
  go_upto_region 27 with (first
    | (go_at_call 62; refine (log10_any _ (by omega) (by omega) _).mono ?_; rintro e1 w1 ⟨rfl, rfl⟩))
  have hqq : (dmax : Int) / 10 = (q : Int) := by omega
  have Q9 := Lib.hid hq
  clear hq
  by_cases hbr : dmin ≤ q * 10
  · have t1 : decide ((dmin : Int) ≤ (q : Int) * 10) = true := decide_eq_true (by omega)
    have t2 : decide (dmin ≤ q * 10) = true := decide_eq_true hbr
    have HB := Lib.hid hbr
    clear hbr
    go_wp2_with (first
      | (go_at_call 78; refine (log2_any _ (by omega) (by omega) _).mono ?_; rintro e1 w2 ⟨rfl, rfl⟩)
      | (go_at_call 77; refine C77.out.mono ?_; rintro e1 w3 ⟨rfl, S3⟩)
      | (go_at_call 79; (with_reducible refine (C79a.out _ S3).mono ?_); clear S3; rintro e1 w4 ⟨rfl, S4⟩)
      | (go_at_call 80; (with_reducible refine (C80a.out _).mono ?_); rintro e1 w5 ⟨rfl, rfl⟩)
      | (go_at_call 81; (with_reducible refine (C81.out _).mono ?_); rintro e1 w5 ⟨rfl, rfl⟩)
      | (go_at_call 79; (with_reducible refine (C79b.out _ S4).mono ?_); clear S4; rintro e1 w6 ⟨rfl, S6⟩)
      | (go_at_call 80; (with_reducible refine (C80b.out _).mono ?_); rintro e1 w5 ⟨rfl, rfl⟩)
      | (go_at_call 82; (with_reducible refine (C82.out _).mono ?_); rintro e1 w5 ⟨rfl, rfl⟩)
      | (go_at_call 79; (with_reducible refine (C79c.out _ S6).mono ?_); clear S6; rintro e1 w7 ⟨rfl, S7⟩)
      | (go_at_call 83; (with_reducible refine (C83.out _).mono ?_); rintro e1 w5 ⟨rfl, rfl⟩))
    go_returns
    exact ⟨by rw [H.out.1, H.out.2.1, if_pos HB.out, if_pos HB.out]; exact congrArg (fun n => Ending.returned (.tuple #[.int .u64 (q : Int), .int .i64 n])) (by omega), S6.2.2⟩
  · have t1 : decide ((dmin : Int) ≤ (q : Int) * 10) = false := decide_eq_false (by omega)
    have t2 : decide (dmin ≤ q * 10) = false := decide_eq_false hbr
    have HB := Lib.hid hbr
    clear hbr
    by_cases hlt : dmin < dmax
    · have t3 : decide (dmin < dmax) = true := decide_eq_true hlt
      have HL := Lib.hid hlt
      clear hlt
      go_wp2_with (first
      | (go_at_call 78; refine (log2_any _ (by omega) (by omega) _).mono ?_; rintro e1 w2 ⟨rfl, rfl⟩)
      | (go_at_call 77; refine C77.out.mono ?_; rintro e1 w3 ⟨rfl, S3⟩)
      | (go_at_call 79; (with_reducible refine (C79a.out _ S3).mono ?_); clear S3; rintro e1 w4 ⟨rfl, S4⟩)
      | (go_at_call 80; (with_reducible refine (C80a.out _).mono ?_); rintro e1 w5 ⟨rfl, rfl⟩)
      | (go_at_call 81; (with_reducible refine (C81.out _).mono ?_); rintro e1 w5 ⟨rfl, rfl⟩)
      | (go_at_call 79; (with_reducible refine (C79b.out _ S4).mono ?_); clear S4; rintro e1 w6 ⟨rfl, S6⟩)
      | (go_at_call 80; (with_reducible refine (C80b.out _).mono ?_); rintro e1 w5 ⟨rfl, rfl⟩)
      | (go_at_call 82; (with_reducible refine (C82.out _).mono ?_); rintro e1 w5 ⟨rfl, rfl⟩)
      | (go_at_call 79; (with_reducible refine (C79c.out _ S6).mono ?_); clear S6; rintro e1 w7 ⟨rfl, S7⟩)
      | (go_at_call 83; (with_reducible refine (C83.out _).mono ?_); rintro e1 w5 ⟨rfl, rfl⟩))
      go_returns
      exact ⟨by rw [H.out.1, H.out.2.1, if_neg HB.out, if_neg HB.out, if_pos HL.out]; exact congrArg (fun n => Ending.returned (.tuple #[.int .u64 (roundU um : Int), .int .i64 n])) (by omega), S7.2.2⟩
    · have t3 : decide (dmin < dmax) = false := decide_eq_false hlt
      have HL := Lib.hid hlt
      clear hlt
      go_wp2_with (first
      | (go_at_call 78; refine (log2_any _ (by omega) (by omega) _).mono ?_; rintro e1 w2 ⟨rfl, rfl⟩)
      | (go_at_call 77; refine C77.out.mono ?_; rintro e1 w3 ⟨rfl, S3⟩)
      | (go_at_call 79; (with_reducible refine (C79a.out _ S3).mono ?_); clear S3; rintro e1 w4 ⟨rfl, S4⟩)
      | (go_at_call 80; (with_reducible refine (C80a.out _).mono ?_); rintro e1 w5 ⟨rfl, rfl⟩)
      | (go_at_call 81; (with_reducible refine (C81.out _).mono ?_); rintro e1 w5 ⟨rfl, rfl⟩)
      | (go_at_call 79; (with_reducible refine (C79b.out _ S4).mono ?_); clear S4; rintro e1 w6 ⟨rfl, S6⟩)
      | (go_at_call 80; (with_reducible refine (C80b.out _).mono ?_); rintro e1 w5 ⟨rfl, rfl⟩)
      | (go_at_call 82; (with_reducible refine (C82.out _).mono ?_); rintro e1 w5 ⟨rfl, rfl⟩)
      | (go_at_call 79; (with_reducible refine (C79c.out _ S6).mono ?_); clear S6; rintro e1 w7 ⟨rfl, S7⟩)
      | (go_at_call 83; (with_reducible refine (C83.out _).mono ?_); rintro e1 w5 ⟨rfl, rfl⟩))
      go_returns
      exact ⟨by rw [H.out.1, H.out.2.1, if_neg HB.out, if_neg HB.out, if_neg HL.out]; exact congrArg (fun n => Ending.returned (.tuple #[.int .u64 (dmin : Int), .int .i64 n])) (by omega), S6.2.2⟩
set_option maxRecDepth 100000 in
set_option maxHeartbeats 4000000 in
theorem short67D (m : Nat) (e p : Int) (mn mx odd i s umin umax um : Nat) (w : World) (hG : Glob w) (hm : m < 18446744073709551616) (hm1 : 9223372036854775808 ≤ m) (hmx : mx < 18446744073709551616) (he1 : -1137 ≤ e) (he2 : e ≤ 1000)
    (hq1 : ((m : Int) == 9223372036854775808) = true) (h1 : e = -1085) (h2 : p = p10 (e + 11)) (h3 : mn = m - 1024) (h4 : mx = m + 1024) (h5 : odd = m / 2048 % 2)
    (hi : i < 696) (hp : p + 348 = (i : Int)) (hs : -(e + lp10 p + 3) = (s : Int)) (hs1 : s ≤ 63)
    (hu1 : uscaleN mn (rowP i).1 (rowP i).2 s = umin) (hu2 : uscaleN mx (rowP i).1 (rowP i).2 s = umax) (hu3 : uscaleN m (rowP i).1 (rowP i).2 s = um) (hb1 : umin < 1152921504606846976) (hb2 : umax < 1152921504606846976) (hb3 : um < 1152921504606846976) (hb4 : 1 ≤ umax) :
    Calls Tryd.prog 67 #[.int .u64 (m : Int), .int .i64 e] w fun e' w' =>
      e' = .returned (.tuple #[.int .u64 (shortD umin umax um odd : Int), .int .i64 ((shortTen umin umax odd : Int) - p)]) ∧ Below w.heap.size w w' := by
  have hr := row_any i hi
  unfold rowOk at hr
  simp only [Bool.and_eq_true, decide_eq_true_eq] at hr
  obtain ⟨⟨⟨⟨r1, r2⟩, r3⟩, _⟩, _⟩ := hr
  have hl1 : -5000 ≤ lp10 p ∧ lp10 p ≤ 5000 := by unfold lp10; omega
  have hpl : p * 108853 / 32768 = lp10 p := rfl
  have C77 := Lib.hid (prescale_sc i p e (lp10 p) s w hG hp hi (by omega) (by omega) hl1.1 hl1.2 hs)
  have prod : ∀ x : Nat, 4611686018427387904 ≤ x → 18446744073709551616 ≤ x * (rowP i).1 := fun x hx => Nat.le_trans (by decide : 18446744073709551616 ≤ 4611686018427387904 * 9223372036854775808) (Nat.mul_le_mul hx r2)
  have C79a := Lib.hid (uscale_sc w mn _ _ s (by omega) r1 r3 hs1 (prod mn (by omega)))
  have C79b := Lib.hid (uscale_sc w mx _ _ s (by omega) r1 r3 hs1 (prod mx (by omega)))
  have C79c := Lib.hid (uscale_sc w m _ _ s (by omega) r1 r3 hs1 (prod m (by omega)))
  rw [hu1] at C79a
  rw [hu2] at C79b
  rw [hu3] at C79c
  have ho : odd ≤ 1 := by omega
  obtain ⟨v, hv⟩ : ∃ v, v = umin + odd := ⟨_, rfl⟩
  obtain ⟨v2, hv2⟩ : ∃ v, v = umax - odd := ⟨_, rfl⟩
  obtain ⟨dmin, hdmin⟩ : ∃ v2, v2 = (v + 3) / 4 := ⟨_, rfl⟩
  obtain ⟨dmax, hdmax⟩ : ∃ d, d = v2 / 4 := ⟨_, rfl⟩
  obtain ⟨q, hq⟩ : ∃ q, q = dmax / 10 := ⟨_, rfl⟩
  have C80a := Lib.hid (nudge_any umin v odd (by omega) (by omega) (by omega))
  have C80b := Lib.hid (nudge_any umax v2 (-(odd : Int)) (by omega) (by omega) (by omega))
  have C81 := Lib.hid (ceil_any v (by omega))
  have C82 := Lib.hid (floor_any v2 (by omega))
  have C83 := Lib.hid (fun w => round_big um w (by omega))
  rw [← hdmin] at C81
  rw [← hdmax] at C82
  have hD : shortD umin umax um odd = if dmin ≤ q * 10 then q else if dmin < dmax then roundU um else dmin := by rw [shortD, hq, hdmin, hdmax, hv, hv2]
  have hT : shortTen umin umax odd = if dmin ≤ q * 10 then 1 else 0 := by rw [shortTen, hq, hdmin, hdmax, hv, hv2]
  have H := Lib.hid (And.intro hD (And.intro hT (And.intro h2 (And.intro h3 (And.intro h4 h5)))))
  have s1 : decide (-1085 ≤ e) = true := decide_eq_true (by omega)
  have s6 : decide (-1085 < e) = false := decide_eq_false (by omega)
  have s2 : (m : Int) - 1024 = (mn : Int) := by omega
  have s3 : (m : Int) + 1024 = (mx : Int) := by omega
  have s4 : bits .and .i64 ((m : Int) / 2048) 1 = (odd : Int) := by
    have := and_i64_nat (m / 2048) 1 (by omega) (by omega)
    rw [Nat.and_one_is_mod] at this
    rw [h5]
    exact this
  have s5 : (e + 11) * 78913 / 262144 = -p := by rw [h2]; unfold p10; omega
  have b1 : dmin < 1152921504606846976 := by omega
  have b2 : dmax < 1152921504606846976 := by omega
  have b3 : q < 1152921504606846976 := by omega
  clear hD hT h1 h2 h3 h4 h5 hv hv2 hdmin hdmax hu1 hu2 hu3 hG hi hp hs hs1 r1 r2 r3 prod
  go_enter Tryd.func67, Tryd.ntmps67
  go_upto_region 27 with (first
    | (go_at_call 62; refine (log10_any _ (by omega) (by omega) _).mono ?_; rintro e1 w1 ⟨rfl, rfl⟩))
  have hqq : (dmax : Int) / 10 = (q : Int) := by omega
  have Q9 := Lib.hid hq
  clear hq
  by_cases hbr : dmin ≤ q * 10
  · have t1 : decide ((dmin : Int) ≤ (q : Int) * 10) = true := decide_eq_true (by omega)
    have t2 : decide (dmin ≤ q * 10) = true := decide_eq_true hbr
    have HB := Lib.hid hbr
    clear hbr
    go_wp2_with (first
      | (go_at_call 78; refine (log2_any _ (by omega) (by omega) _).mono ?_; rintro e1 w2 ⟨rfl, rfl⟩)
      | (go_at_call 77; refine C77.out.mono ?_; rintro e1 w3 ⟨rfl, S3⟩)
      | (go_at_call 79; (with_reducible refine (C79a.out _ S3).mono ?_); clear S3; rintro e1 w4 ⟨rfl, S4⟩)
      | (go_at_call 80; (with_reducible refine (C80a.out _).mono ?_); rintro e1 w5 ⟨rfl, rfl⟩)
      | (go_at_call 81; (with_reducible refine (C81.out _).mono ?_); rintro e1 w5 ⟨rfl, rfl⟩)
      | (go_at_call 79; (with_reducible refine (C79b.out _ S4).mono ?_); clear S4; rintro e1 w6 ⟨rfl, S6⟩)
      | (go_at_call 80; (with_reducible refine (C80b.out _).mono ?_); rintro e1 w5 ⟨rfl, rfl⟩)
      | (go_at_call 82; (with_reducible refine (C82.out _).mono ?_); rintro e1 w5 ⟨rfl, rfl⟩)
      | (go_at_call 79; (with_reducible refine (C79c.out _ S6).mono ?_); clear S6; rintro e1 w7 ⟨rfl, S7⟩)
      | (go_at_call 83; (with_reducible refine (C83.out _).mono ?_); rintro e1 w5 ⟨rfl, rfl⟩))
    go_returns
    exact ⟨by rw [H.out.1, H.out.2.1, if_pos HB.out, if_pos HB.out]; exact congrArg (fun n => Ending.returned (.tuple #[.int .u64 (q : Int), .int .i64 n])) (by omega), S6.2.2⟩
  · have t1 : decide ((dmin : Int) ≤ (q : Int) * 10) = false := decide_eq_false (by omega)
    have t2 : decide (dmin ≤ q * 10) = false := decide_eq_false hbr
    have HB := Lib.hid hbr
    clear hbr
    by_cases hlt : dmin < dmax
    · have t3 : decide (dmin < dmax) = true := decide_eq_true hlt
      have HL := Lib.hid hlt
      clear hlt
      go_wp2_with (first
      | (go_at_call 78; refine (log2_any _ (by omega) (by omega) _).mono ?_; rintro e1 w2 ⟨rfl, rfl⟩)
      | (go_at_call 77; refine C77.out.mono ?_; rintro e1 w3 ⟨rfl, S3⟩)
      | (go_at_call 79; (with_reducible refine (C79a.out _ S3).mono ?_); clear S3; rintro e1 w4 ⟨rfl, S4⟩)
      | (go_at_call 80; (with_reducible refine (C80a.out _).mono ?_); rintro e1 w5 ⟨rfl, rfl⟩)
      | (go_at_call 81; (with_reducible refine (C81.out _).mono ?_); rintro e1 w5 ⟨rfl, rfl⟩)
      | (go_at_call 79; (with_reducible refine (C79b.out _ S4).mono ?_); clear S4; rintro e1 w6 ⟨rfl, S6⟩)
      | (go_at_call 80; (with_reducible refine (C80b.out _).mono ?_); rintro e1 w5 ⟨rfl, rfl⟩)
      | (go_at_call 82; (with_reducible refine (C82.out _).mono ?_); rintro e1 w5 ⟨rfl, rfl⟩)
      | (go_at_call 79; (with_reducible refine (C79c.out _ S6).mono ?_); clear S6; rintro e1 w7 ⟨rfl, S7⟩)
      | (go_at_call 83; (with_reducible refine (C83.out _).mono ?_); rintro e1 w5 ⟨rfl, rfl⟩))
      go_returns
      exact ⟨by rw [H.out.1, H.out.2.1, if_neg HB.out, if_neg HB.out, if_pos HL.out]; exact congrArg (fun n => Ending.returned (.tuple #[.int .u64 (roundU um : Int), .int .i64 n])) (by omega), S7.2.2⟩
    · have t3 : decide (dmin < dmax) = false := decide_eq_false hlt
      have HL := Lib.hid hlt
      clear hlt
      go_wp2_with (first
      | (go_at_call 78; refine (log2_any _ (by omega) (by omega) _).mono ?_; rintro e1 w2 ⟨rfl, rfl⟩)
      | (go_at_call 77; refine C77.out.mono ?_; rintro e1 w3 ⟨rfl, S3⟩)
      | (go_at_call 79; (with_reducible refine (C79a.out _ S3).mono ?_); clear S3; rintro e1 w4 ⟨rfl, S4⟩)
      | (go_at_call 80; (with_reducible refine (C80a.out _).mono ?_); rintro e1 w5 ⟨rfl, rfl⟩)
      | (go_at_call 81; (with_reducible refine (C81.out _).mono ?_); rintro e1 w5 ⟨rfl, rfl⟩)
      | (go_at_call 79; (with_reducible refine (C79b.out _ S4).mono ?_); clear S4; rintro e1 w6 ⟨rfl, S6⟩)
      | (go_at_call 80; (with_reducible refine (C80b.out _).mono ?_); rintro e1 w5 ⟨rfl, rfl⟩)
      | (go_at_call 82; (with_reducible refine (C82.out _).mono ?_); rintro e1 w5 ⟨rfl, rfl⟩)
      | (go_at_call 79; (with_reducible refine (C79c.out _ S6).mono ?_); clear S6; rintro e1 w7 ⟨rfl, S7⟩)
      | (go_at_call 83; (with_reducible refine (C83.out _).mono ?_); rintro e1 w5 ⟨rfl, rfl⟩))
      go_returns
      exact ⟨by rw [H.out.1, H.out.2.1, if_neg HB.out, if_neg HB.out, if_neg HL.out]; exact congrArg (fun n => Ending.returned (.tuple #[.int .u64 (dmin : Int), .int .i64 n])) (by omega), S6.2.2⟩
end Go.Proofs.YtnfddblpenninaaDoor
