/- A float of 64 bits written with so many digits behind the point: the walk. -/
import Derived.Test.YtnfddblpenninaaDoorMgJ
import Derived.BigQuiet
import Derived.Deep.CutBlock
import Derived.StillTailTactics
namespace Go.Proofs.YtnfddblpenninaaDoor
open Go.RowKit

theorem bits_and_i64_nat (a b : Nat) (ha : a < 9223372036854775808) (hb : b < 9223372036854775808) : bits .and .i64 (a : Int) (b : Int) = ((a &&& b : Nat) : Int) := by
  have hx : a &&& b < 2 ^ 63 := Nat.and_lt_two_pow _ (by omega)
  have h1 : (BitVec.ofInt 64 (a : Int)).toNat = a := by
    rw [BitVec.ofInt_natCast, BitVec.toNat_ofNat]; exact Nat.mod_eq_of_lt (by omega)
  have h2 : (BitVec.ofInt 64 (b : Int)).toNat = b := by
    rw [BitVec.ofInt_natCast, BitVec.toNat_ofNat]; exact Nat.mod_eq_of_lt (by omega)
  show IntKind.i64.wrap ((BitVec.ofInt 64 (a : Int) &&& BitVec.ofInt 64 (b : Int)).toNat : Int) = _
  rw [BitVec.toNat_and, h1, h2, IntKind.wrap_i64]
  omega
theorem le_nDigits (u : Nat) (h0 : 1 ≤ u) : 10 ^ (Lib.nDigits u - 1) ≤ u := by
  induction u using Nat.strongRecOn with
  | _ u ih =>
    by_cases h : u < 10
    · rw [Lib.nDigits_small h]
      simpa using h0
    · rw [Lib.nDigits_big h, Nat.add_sub_cancel]
      have h1 := ih (u / 10) (by omega) (by omega)
      obtain ⟨k, hk⟩ : ∃ k, Lib.nDigits (u / 10) = k + 1 := ⟨Lib.nDigits (u / 10) - 1, by have := Lib.nDigits_pos (u / 10); omega⟩
      rw [hk, Nat.add_sub_cancel] at h1
      rw [hk, Nat.pow_succ]
      omega
/-- A text is handed back, the right one. -/
def FixEnd (w : World) (b prec : Nat) (e : Ending) (w' : World) : Prop :=
  ∃ (v : Value) (l : List UInt8) (D : Nat), e = .returned v ∧ Out w' w.heap.size v (signed (decide (9223372036854775808 ≤ b)) l) ∧ Good l prec D ∧ Right D prec (manF b) (powF b) ∧ Below w.heap.size w w'
theorem Out.lower {w : World} {B C : Nat} {v : Value} {l : List UInt8} (h : Out w B v l) (hC : C ≤ B) : Out w C v l := by
  obtain ⟨h1, h2⟩ := h
  refine ⟨h1, ?_⟩
  rcases h2 with h | ⟨g, cap, cur, h3, h4, h5⟩
  · exact .inl h
  · exact .inr ⟨g, cap, cur, h3, Nat.le_trans hC h4, h5⟩
theorem fix_of {w w1 w' : World} {b prec : Nat} {neg : Bool} {ds : List UInt8} {dp : Int} {v : Value} (hb : Below w.heap.size w w1) (hO : Out w' w1.heap.size v (textF neg ds dp prec)) (hb2 : Below w1.heap.size w1 w') (hds : IsDig ds) (hn : (ds.length : Int) ≤ dp + prec) (hd : dp ≤ 300) (hp : prec ≤ 50)
    (hneg : neg = decide (9223372036854775808 ≤ b)) (hR : Right (numL ds * 10 ^ (dp + prec - ds.length).toNat) prec (manF b) (powF b)) : FixEnd w b prec (.returned v) w' := by
  obtain ⟨l, hl, hg⟩ := text_good neg ds dp prec hds hn hd hp
  rw [hl, hneg] at hO
  exact ⟨v, l, _, rfl, hO.lower hb.size, hg, hR, below_next hb hb2⟩
theorem right_zero (prec : Nat) (k : Int) : Right 0 prec 0 k := right_of_half 0 prec 0 0 1 k ⟨.inl rfl, .inl (by decide)⟩ (by decide) (by simp)
theorem zero_dec : Tryd.zeroCells105 = Array.replicate 800 (Value.int .u8 0) ++ #[.int .i64 0, .int .i64 0, .bool false, .bool false] := by kernel_rfl
theorem new_dec (w : World) : Dec (w.alloc (.cells Tryd.zeroCells105 105)) w.heap.size (fun _ => 0) 0 0 := by
  refine ⟨_, Whole.new w 105 _, ?_, fun i hi => ?_, ?_, ?_, ?_⟩
  · rw [zero_dec]
    simp
  · rw [zero_dec, Array.getElem?_append_left (by simpa using hi)]
    simp [hi, byteV]
  all_goals
    rw [zero_dec, Array.getElem?_append_right (by simp)]
    simp
/-- What is left of a decimal that is right. -/
theorem dec_right (N n r m prec D A B : Nat) (k dp : Int) (hr : (r : Int) = dp + prec) (hAB : (A : Int) - B = dp - n) (he : N * 10 ^ A * 2 ^ (-k).toNat = m * 2 ^ k.toNat * 10 ^ B)
    (hD : (n ≤ r ∧ D = N * 10 ^ (r - n)) ∨ (r < n ∧ Half D N (10 ^ (n - r)))) : Right D prec m k := by
  have hp : ∀ j, 0 < 10 ^ j := fun j => Nat.pow_pos (by decide)
  rcases hD with ⟨hn, rfl⟩ | ⟨hn, hH⟩
  · refine right_of_half _ _ _ _ 1 _ (half_self _) (by decide) ?_
    refine Nat.eq_of_mul_eq_mul_right (hp B) ?_
    have h1 : N * 10 ^ (r - n) * 2 ^ (-k).toNat * 10 ^ B = N * 2 ^ (-k).toNat * (10 ^ (r - n) * 10 ^ B) := by simp only [Nat.mul_assoc, Nat.mul_comm, Nat.mul_left_comm]
    have h2 : 10 ^ (r - n) * 10 ^ B = 10 ^ A * 10 ^ prec := by
      rw [← Nat.pow_add, ← Nat.pow_add]
      congr 1
      omega
    have h3 : N * 2 ^ (-k).toNat * (10 ^ A * 10 ^ prec) = N * 10 ^ A * 2 ^ (-k).toNat * 10 ^ prec := by simp only [Nat.mul_assoc, Nat.mul_comm, Nat.mul_left_comm]
    rw [h1, h2, h3, he, Nat.mul_one]
    simp only [Nat.mul_assoc, Nat.mul_comm, Nat.mul_left_comm]
  · refine right_of_half _ _ _ _ _ _ hH (hp _) ?_
    refine Nat.eq_of_mul_eq_mul_right (hp A) ?_
    have h1 : N * 2 ^ (-k).toNat * 10 ^ A = N * 10 ^ A * 2 ^ (-k).toNat := Nat.mul_right_comm _ _ _
    have h2 : 10 ^ B = 10 ^ prec * 10 ^ (n - r) * 10 ^ A := by
      rw [← Nat.pow_add, ← Nat.pow_add]
      congr 1
      omega
    rw [h1, he, h2]
    simp only [Nat.mul_assoc, Nat.mul_comm, Nat.mul_left_comm]
theorem dec_pos (N n m A B : Nat) (k dp : Int) (hN : N < 10 ^ n) (hm : 4503599627370496 ≤ m) (hk : -33 ≤ k) (hAB : (A : Int) - B = dp - n) (he : N * 10 ^ A * 2 ^ (-k).toNat = m * 2 ^ k.toNat * 10 ^ B) : 0 < dp := by
  rcases Int.lt_or_le 0 dp with h | h
  · exact h
  · exfalso
    have h1 : N * 10 ^ A < 10 ^ B := by
      refine Nat.lt_of_lt_of_le (Nat.mul_lt_mul_of_pos_right hN (Nat.pow_pos (by decide))) ?_
      rw [← Nat.pow_add]
      exact Nat.pow_le_pow_right (by decide) (by omega)
    have h2 : 2 ^ (-k).toNat ≤ 8589934592 := Nat.le_trans (Nat.pow_le_pow_right (by decide) (by omega : (-k).toNat ≤ 33)) (by decide)
    have h3 : N * 10 ^ A * 2 ^ (-k).toNat ≤ 10 ^ B * 8589934592 := Nat.mul_le_mul (Nat.le_of_lt h1) h2
    have h4 : 0 < 2 ^ k.toNat := Nat.pow_pos (by decide)
    have h5 : 4503599627370496 * 10 ^ B ≤ m * 2 ^ k.toNat * 10 ^ B := Nat.mul_le_mul_right _ (Nat.le_trans hm (Nat.le_mul_of_pos_right m h4))
    have h6 : 0 < 10 ^ B := Nat.pow_pos (by decide)
    omega
theorem list_suf (d : Nat → UInt8) : ∀ n, numL ((List.range n).map d) = sufN d 0 n
  | 0 => rfl
  | n + 1 => by
    rw [List.range_succ, List.map_append, numL_append, list_suf d n, sufN_snoc, Nat.zero_add]
    simp [numL, stepL]
set_option maxRecDepth 1000000 in
set_option maxHeartbeats 16000000 in
theorem ftoa_walk (b prec : Nat) (hb : b < 18446744073709551616) (hx : expF b ≤ 1092) (hp : prec ≤ 12) (w : World) (hG : Glob w) :
    Calls Tryd.prog 46 #[.slice none 0 0, .float .f64 b, .int .u8 102, .int .i64 (prec : Int)] w (FixEnd w b prec) := by
  have hr := sbits_run b w
  obtain ⟨neg, hneg⟩ : ∃ neg, neg = decide (9223372036854775808 ≤ b) := ⟨_, rfl⟩
  have hng : ((b : Int) / 9223372036854775808 != 0) = neg := by
    rw [hneg, Bool.eq_iff_iff]
    simp
    omega
  have e1 : bits .and .u64 (b : Int) 4503599627370495 = (fracF b : Int) := by
    have := bits_and_u64_nat b 4503599627370495 hb (by omega)
    rw [show (4503599627370495 : Nat) = 2 ^ 52 - 1 from rfl, Nat.and_two_pow_sub_one_eq_mod] at this
    exact this
  have e2 : bits .and .i64 ((b : Int) / 4503599627370496) 2047 = (expF b : Int) := by
    have := bits_and_i64_nat (b / 4503599627370496) 2047 (by omega) (by omega)
    rw [show (2047 : Nat) = 2 ^ 11 - 1 from rfl, Nat.and_two_pow_sub_one_eq_mod] at this
    exact this
  have e3 : bits .or .u64 (fracF b : Int) 4503599627370496 = ((fracF b + 4503599627370496 : Nat) : Int) := by
    have := bits_or_u64_nat (fracF b) 4503599627370496 (by unfold fracF; omega) (by omega)
    have h := Nat.two_pow_add_eq_or_of_lt (i := 52) (b := fracF b) (by unfold fracF; omega) 1
    have h2 : fracF b ||| 4503599627370496 = fracF b + 4503599627370496 := by
      rw [Nat.or_comm]
      exact h.symm.trans (Nat.add_comm _ _)
    rw [h2] at this
    exact this
  have HN := Lib.hid hneg
  have HG := Lib.hid hG
  clear hneg hG
  go_enter Tryd.func46, Tryd.ntmps46
  go_upto_region 14 with fail
  go_quiet (fail)
  go_upto_if 78 with fail
  obtain ⟨w1, hw1⟩ : ∃ w1, w1 = w.drewN nq := ⟨_, rfl⟩
  rw [← hw1]
  have hb1 : Below w.heap.size w w1 := by rw [hw1]; exact below_drewN (Below.refl _ _) nq
  have HB := Lib.hid (And.intro hb1 (HG.out.below hb1))
  clear hw1 hb1
  obtain ⟨m, hm⟩ : ∃ m, m = manF b := ⟨_, rfl⟩
  obtain ⟨X, hX⟩ : ∃ X, X = powF b + 52 := ⟨_, rfl⟩
  have hmlt := man_lt b
  have hpb := pow_bounds b
  have hX2 : X ≤ 69 := by
    rw [hX]
    unfold powF
    split <;> omega
  rw [← hm] at hmlt
  have hX1 : -1022 ≤ X := by omega
  have hm52 : -1022 < X → 4503599627370496 ≤ m := by
    rw [hX, hm]
    unfold powF manF
    split <;> omega
  have HM := Lib.hid (And.intro hm (And.intro hX hm52))
  clear hpb hm52
  go_cut [14, 15] (fun v14 v15 wc => v14 = .int .i64 (X + 1023) ∧ v15 = .int .u64 (m : Int) ∧ wc = w1)
  case first =>
    by_cases h0 : expF b = 0
    · have hq : ((expF b : Int) == 0) = true := by simp; exact h0
      have H0 := Lib.hid h0
      clear h0 hm hX
      go_wp2_with fail
      go_meet
      have hM := HM.out
      refine ⟨congrArg (Value.int .i64) ?_, congrArg (Value.int .u64) ?_, rfl⟩
      · rw [hM.2.1, powF, if_pos H0.out]
        have := H0.out
        omega
      · rw [hM.1, manF, if_pos H0.out]
    · have hq : ((expF b : Int) == 0) = false := by simp; omega
      have H0 := Lib.hid h0
      clear h0 hm hX
      go_wp2_with fail
      go_meet
      have hM := HM.out
      refine ⟨congrArg (Value.int .i64) ?_, congrArg (Value.int .u64) ?_, rfl⟩
      · rw [hM.2.1, powF, if_neg H0.out]
        omega
      · rw [hM.1, manF, if_neg H0.out]
        rfl
  case rest =>
    obtain ⟨rfl, rfl, hwc⟩ := hcut
    subst hwc
    clear e1 e2 e3 hng hr hm hX
    have hXX : X + 1023 + -1023 = X := by omega
    have hopt := HB.out.2.opt
    go_upto_if 112 with fail
    clear hXX
    rcases Nat.eq_zero_or_pos m with rfl | hm0
    · as_aux_lemma =>
      have HE := Lib.hid (efg_walk neg (.slice none 0 0) [] 0 rfl 0 prec false wc (.inl rfl) (by omega) (by omega) (by omega) (by omega) (by omega))
      go_wp2_with (first | (go_at_call 57; refine HE.out.mono ?_; intro e1 w4 h4; obtain ⟨v4, rfl, h5, h6⟩ := h4; have H4 := Lib.hid (And.intro h5 h6); clear h5 h6))
      go_returns
      refine fix_of HB.out.1 H4.out.1 H4.out.2 (fun c h => by simp at h) (by simp) (by omega) (by omega) HN.out ?_
      have hk : powF b = X - 52 := by have := HM.out.2.1; omega
      rw [← HM.out.1, hk]
      simpa [numL] using right_zero prec (X - 52)
    · go_upto_block 2 with fail
      go_cut [3, 24] (fun v3 v wz => v3 = .int .i64 (prec : Int) ∧ v = .int .i64 (digsF X prec) ∧ wz = wc)
      case first => as_aux_lemma =>
        by_cases h0 : 0 ≤ X
        · have H0 := Lib.hid h0
          go_wp2_with (first | (go_at_call 62; refine (log10_any _ (by omega) (by omega) _).mono ?_; rintro e1 w1 ⟨rfl, rfl⟩))
          go_meet
          exact ⟨rfl, congrArg (Value.int .i64) (by unfold digsF; rw [if_pos H0.out]), rfl⟩
        · have hq : decide (0 ≤ X) = false := by simp; omega
          have H0 := Lib.hid h0
          clear h0
          go_wp2_with (first | (go_at_call 62; refine (log10_any _ (by omega) (by omega) _).mono ?_; rintro e1 w1 ⟨rfl, rfl⟩))
          go_meet
          exact ⟨rfl, congrArg (Value.int .i64) (by unfold digsF; rw [if_neg (by have := H0.out; omega)]), rfl⟩
      case rest =>
        obtain ⟨rfl, rfl, hwc⟩ := hcut
        obtain ⟨wd, hwd⟩ : ∃ wd, wd = wc := ⟨_, rfl⟩
        rw [← hwd] at hwc ⊢
        subst hwc
        clear hwd hopt
        obtain ⟨G, hG⟩ : ∃ G, G = digsF X prec := ⟨_, rfl⟩
        rw [← hG]
        have HGD := Lib.hid hG
        clear hG
        rcases Int.lt_or_le 18 G with hG18 | hG18
        · as_aux_lemma =>
          have hq : decide (G ≤ 18) = false := by simp; omega
          have hX19 : 19 ≤ X := by
            have := HGD.out
            unfold digsF at this
            split at this <;> omega
          have hm52 := HM.out.2.2 (by omega)
          have hD0 := new_dec wd
          have hBw : Below wd.heap.size wd (wd.alloc (.cells Tryd.zeroCells105 105)) := (Below.refl wd.heap.size wd).alloc (Nat.le_refl _) _
          have HA := Lib.hid (assign_walk wd.heap.size m 0 _ 0 _ hD0 hm0 (by omega))
          have HGl := Lib.hid (fun w5 (hb : Below wd.heap.size wd w5) => HB.out.2.below hb)
          have HBw := Lib.hid hBw
          clear hD0 hBw
          go_upto_region 78 with (first
            | (go_at_call 64; refine HA.out.mono ?_; rintro e1 w2 ⟨rfl, d1, n1, j, h1, h2, h3, h4, h5, h6, h7⟩; have H2 := Lib.hid (And.intro h3 (And.intro h4 (And.intro h5 (And.intro h6 (HBw.out.trans (h7.below (by simp) (by rintro x rfl; exact Nat.le_refl _))))))); clear h3 h4 h5 h6 h7))
          have HS := Lib.hid (shift_walk wd.heap.size n1 j m (X - 52) d1 w2 (HGl.out w2 H2.out.2.2.2.2) H2.out.2.2.2.1 H2.out.1 H2.out.2.1 h1 h2 H2.out.2.2.1 (by omega) (by omega))
          go_upto_region 79 with (first
            | (go_at_call 65; refine HS.out.mono ?_; rintro e1 w3 ⟨rfl, d2, n2, dp2, A, B, g1, g2, g3, g4, g5, g6, g7, g8, g9⟩; have H3 := Lib.hid (And.intro g4 (And.intro g5 (And.intro g6 (And.intro g7 (And.intro g8 (H2.out.2.2.2.2.trans (g9.below (by have := H2.out.2.2.2.2.size; omega) (by rintro x rfl; exact Nat.le_refl _)))))))); clear g4 g5 g6 g7 g8 g9))
          have hdp : 0 < dp2 := dec_pos _ n2 m A B (X - 52) dp2 (sufN_lt d2 n2 0 fun i _ h => (H3.out.1.2.1 i (by omega)).2) hm52 (by omega) H3.out.2.2.1 H3.out.2.2.2.1
          obtain ⟨dpn, rfl⟩ := Int.eq_ofNat_of_zero_le (Int.le_of_lt hdp)
          have HR := Lib.hid (round_walk wd.heap.size n2 (dpn + prec) d2 dpn w3 H3.out.2.2.2.2.1 (by omega) (by omega) (by omega) H3.out.1 H3.out.2.1 (by omega) (by omega))
          have hpt := H3.out.2.2.2.2.1.pt
          have hcast : ((dpn + prec : Nat) : Int) = (dpn : Int) + (prec : Int) := by omega
          rw [hcast] at HR
          clear hcast
          go_upto_region 90 with (first
            | (go_at_call 66; refine HR.out.mono ?_; rintro e1 w4 ⟨rfl, d3, n3, t, D, g1, g2, g3, g4, g5, g6, g7, g8, g9⟩; have H4 := Lib.hid (And.intro g1 (And.intro g6 (And.intro g7 (And.intro g8 (H3.out.2.2.2.2.2.trans (g9.below (by have := H3.out.2.2.2.2.2.size; omega) (by rintro x rfl; exact Nat.le_refl _))))))); clear g1 g6 g7 g8 g9))
          obtain ⟨ds, hds⟩ : ∃ ds : List UInt8, ds = (List.range n3).map d3 := ⟨_, rfl⟩
          have hdl : ds.length = n3 := by rw [hds]; simp
          have hdd : ∀ i (h : i < ds.length), ds[i] = d3 i := fun i h => by simp [hds]
          have hdig : IsDig ds := fun c hc => by
            rw [hds] at hc
            obtain ⟨i, hi, rfl⟩ := List.mem_map.1 hc
            exact H4.out.2.1 i (List.mem_range.1 hi)
          have hDg : Digs w4 (.slice (some ⟨wd.heap.size, 0, none⟩) 800 800) ds := ⟨wd.heap.size, 800, 800, rfl, H4.out.2.2.2.1.lt, by omega, Nat.le_refl _, fun i hi => by rw [hdd i hi]; exact H4.out.2.2.2.1.dig i (by omega)⟩
          have hnum : numL ds = sufN d3 0 n3 := by rw [hds]; exact list_suf d3 n3
          have hc4 := H4.out.2.2.2.1.cnt
          have hp4 := H4.out.2.2.2.1.pt
          have HE := Lib.hid (fun w5 (hb : Below w4.heap.size w4 w5) => efg_walk neg (.slice (some ⟨wd.heap.size, 0, none⟩) 800 800) ds n3 hdl ((dpn : Int) + t) prec false w5 (.inr (hDg.below hb)) (by omega) (by omega) (by omega) (by omega) (by omega))
          have HL := Lib.hid (And.intro hdl (And.intro hdig hnum))
          clear hds hdl hdd hdig hDg hnum hpt
          go_cut [8] (fun v8 wz => Out wz wd.heap.size v8 (textF neg ds ((dpn : Int) + t) prec) ∧ Below wd.heap.size wd wz)
          case first =>
            go_still_tail 16, (by kernel_rfl)
            change wpList _ _ _ _ _ w4.drew
            have HE2 := Lib.hid (HE.out w4.drew (below_drewN (Below.refl _ _) 1))
            obtain ⟨w5, hw5⟩ : ∃ w5, w5 = w4.drew := ⟨_, rfl⟩
            have HW5 := Lib.hid hw5
            rw [← hw5] at HE2 ⊢
            clear hw5
            go_wp2_with (first
              | (go_at_call 57; refine HE2.out.mono ?_; intro e1 w6 h6; obtain ⟨v4, rfl, h7, h8⟩ := h6; have H6 := Lib.hid (And.intro h7 h8); clear h7 h8))
            go_meet
            have hb5 : Below wd.heap.size wd w5 := by rw [HW5.out]; exact below_drewN H4.out.2.2.2.2 1
            exact ⟨H6.out.1.lower hb5.size, below_next hb5 H6.out.2⟩
          case rest =>
            have HC := Lib.hid hcut
            clear hcut
            go_wp2_with fail
            go_returns
            refine fix_of HB.out.1 HC.out.1 HC.out.2 HL.out.2.1 (by rw [HL.out.1]; omega) (by omega) (by omega) HN.out ?_
            have hk : powF b = X - 52 := by have := HM.out.2.1; omega
            rw [← HM.out.1, hk, HL.out.1, HL.out.2.2]
            have e9 : ((dpn : Int) + t + prec - n3).toNat = dpn + prec + t - n3 := by omega
            rw [e9, H4.out.2.2.1]
            exact dec_right _ n2 (dpn + prec) m prec D A B (X - 52) dpn (by omega) H3.out.2.2.1 H3.out.2.2.2.1 H4.out.1
        · rcases Int.lt_or_le 0 G with hG0 | hG0
          · as_aux_lemma =>
            obtain ⟨n, hn⟩ := Int.eq_ofNat_of_zero_le (Int.le_of_lt hG0)
            subst hn
            have hXm : -1022 < X := by
              have := HGD.out
              unfold digsF at this
              split at this <;> omega
            have hm52 := HM.out.2.2 hXm
            obtain ⟨p, s, q1, q2, q3, q4, q5, q6, q7, q8⟩ := width_plain m prec n X hm52 hmlt hX1 hX2 hp HGD.out.symm (by omega) (by omega)
            have c58 := fun w2 => Tryd.bits_Len64 (m : Int) w2 (by omega) (by omega)
            have e58 : ((Lib.bitLen (m : Int).toNat : Nat) : Int) = 53 := by rw [Int.toNat_natCast, len53 m hm52 hmlt]; rfl
            simp only [e58] at c58
            have C58 := Lib.hid c58
            have c63 := fun w2 (hg : Glob w2) => width_walk (m * 2048) (X - 63) n prec p s w2 hg (by omega) (by omega) (by omega) (by omega) hp (by omega) (by omega) q1 q2 q3 q4 q5 q6
            rw [show ((m * 2048 : Nat) : Int) = (m : Int) * 2048 by omega] at c63
            obtain ⟨D, hD⟩ : ∃ D, D = roundU (fixU (uscaleN (m * 2048) (rowP (348 + p)).1 (rowP (348 + p)).2 s) p prec) := ⟨_, rfl⟩
            rw [← hD] at q7 q8 c63
            have C63 := Lib.hid c63
            have HQ := Lib.hid q8
            have hX63 : X - 11 - 52 = X - 63 := by omega
            clear c58 e58 c63 q1 q2 q3 q4 q5 q6 q8 hD hXm
            have hW0 := Whole.new wd 100 (Array.replicate 24 (.int .u8 0))
            have HW0 := Lib.hid hW0
            have HBg := HB.out.2
            have HG2 := Lib.hid (HBg.below ((Below.refl wd.heap.size wd).alloc (Nat.le_refl _) (.cells (Array.replicate 24 (.int .u8 0)) 100)))
            clear hW0 HBg
            go_upto_if 228 with (first
              | (go_at_call 58; refine (C58.out _).mono ?_; rintro e1 w2 ⟨rfl, rfl⟩)
              | (go_at_call 63; refine (C63.out _ HG2.out).mono ?_; rintro e1 w3 ⟨rfl, h3⟩; have H3 := Lib.hid h3; clear h3))
            have HB3 := Lib.hid (((Below.refl wd.heap.size wd).alloc (Nat.le_refl _) (.cells (Array.replicate 24 (.int .u8 0)) 100)).trans (below_lower H3.out (by simp)))
            have hW3 : Whole w3 wd.heap.size 100 (Array.replicate 24 (.int .u8 0)) := HW0.out.below H3.out (by simp)
            have HW3 := Lib.hid hW3
            clear hW3
            go_cut [26, 27] (fun v26 v27 wz => ∃ (k : Nat) (dp : Int), v26 = .int .i64 dp ∧ v27 = .int .i64 (k : Int) ∧ k ≤ 24 ∧ -13 ≤ dp ∧ dp ≤ 24 ∧ Hid (Below wd.heap.size wd wz ∧ ∃ ds : List UInt8, ds.length = k ∧ IsDig ds ∧ (k : Int) ≤ dp + prec ∧ (0 < dp → 0 < k) ∧ numL ds * 10 ^ (dp + prec - k).toNat = D ∧ (k = 0 ∨ Digs wz (.slice (some ⟨wd.heap.size, 0, none⟩) 24 24) ds)))
            case first => as_aux_lemma =>
              rcases Nat.eq_zero_or_pos D with rfl | hD0
              · go_wp2_with fail
                go_meet
                exact ⟨0, 0, rfl, rfl, by omega, by omega, by omega, Lib.hid ⟨HB3.out, [], rfl, fun c h => by simp at h, by omega, by omega, by simp [numL], .inl rfl⟩⟩
              · have hq : ((D : Int) != 0) = true := by simp; omega
                obtain ⟨N, hN⟩ : ∃ N, N = Lib.nDigits D := ⟨_, rfl⟩
                have hN1 : 1 ≤ N := by rw [hN]; exact Lib.nDigits_pos D
                have hN2 : N ≤ 20 := by
                  rcases Nat.lt_or_ge N 21 with h | h
                  · omega
                  · have h1 := le_nDigits D (by omega)
                    rw [← hN] at h1
                    have h2 := Nat.pow_le_pow_right (by decide : 0 < 10) (by omega : 20 ≤ N - 1)
                    omega
                have C61 := Lib.hid (fun w5 (hb : Below w3.heap.size w3 w5) => Tryd.internal_strconv_numDigits D (by omega) (by omega) w5 ((HG2.out.below H3.out).below hb).tens)
                have C60 := Lib.hid (fun w5 (hW : Whole w5 wd.heap.size 100 (Array.replicate 24 (.int .u8 0))) => setd_walk wd.heap.size 24 D N (-(prec : Int)) _ w5 hW (by simp) (fun i hi => by simp [hi]) (by omega) hN (by omega) (by omega) (by omega) (by omega))
                have HNN := Lib.hid hN
                rw [← hN] at C61
                clear hN
                go_wp2_with fail
                go_region_with (first
                  | (go_at_call 61; refine (C61.out _ (below_drewN (Below.refl _ _) _)).mono ?_; rintro e1 w5 ⟨rfl, rfl⟩)
                  | (go_at_call 60; refine (C60.out _ (HW3.out.drewN _)).mono ?_; rintro e1 w6 ⟨k, ds, rfl, h1, h2, h3⟩; have H6 := Lib.hid (And.intro h1 (And.intro h2 h3)); clear h1 h2 h3))
                go_wp2_with fail
                go_meet
                obtain ⟨⟨g1, g2, g3, g4⟩, g5, g6⟩ := H6.out
                refine ⟨k, (N : Int) + -(prec : Int), rfl, rfl, by omega, by omega, by omega, Lib.hid ⟨(below_drewN HB3.out _).trans (g6.below (B := wd.heap.size) (by have := HB3.out.size; simp; omega) (by rintro x rfl; exact Nat.le_refl _)), ds, g2, g3, by omega, ?_, ?_, .inr g5⟩⟩
                · intro _
                  rcases Nat.eq_zero_or_pos k with rfl | h
                  · have := List.length_eq_zero_iff.1 g2
                    subst this
                    simp [numL] at g4
                    omega
                  · exact h
                · rw [show ((N : Int) + -(prec : Int) + prec - k).toNat = N - k by omega]
                  exact g4
            case rest =>
              obtain ⟨k, dp, rfl, rfl, hk24, hdp1, hdp2, hR⟩ := hcut
              obtain ⟨r1, ds, r2, r3, r4, r5, r6, r7⟩ := hR.out
              have HE := Lib.hid (efg_walk neg (.slice (some ⟨wd.heap.size, 0, none⟩) 24 24) ds k r2 dp prec false wc r7 r5 (by omega) (by omega) (by omega) (by omega))
              have HR := Lib.hid (And.intro r1 (And.intro r2 (And.intro r3 (And.intro r4 r6))))
              clear r1 r2 r3 r4 r5 r6 r7 hR
              go_wp2_with (first | (go_at_call 57; refine HE.out.mono ?_; intro e1 w4 h4; obtain ⟨v4, rfl, h5, h6⟩ := h4; have H4 := Lib.hid (And.intro h5 h6); clear h5 h6))
              go_returns
              have hRR := HR.out
              refine fix_of (below_next HB.out.1 hRR.1) H4.out.1 H4.out.2 hRR.2.2.1 (by rw [hRR.2.1]; exact hRR.2.2.2.1) (by omega) (by omega) HN.out ?_
              have hk : powF b = X - 52 := by have := HM.out.2.1; omega
              rw [← HM.out.1, hk, hRR.2.1, hRR.2.2.2.2]
              exact HQ.out
          · as_aux_lemma =>
            have hq : decide (0 < G) = false := by simp; omega
            have HE := Lib.hid (fun w2 sv => efg_walk neg sv [] 0 rfl 0 prec false w2 (.inl rfl) (by omega) (by omega) (by omega) (by omega) (by omega))
            have HG0 := Lib.hid hG0
            clear hG0
            go_wp2_with (first | (go_at_call 57; refine (HE.out _ _).mono ?_; intro e1 w4 h4; obtain ⟨v4, rfl, h5, h6⟩ := h4; have H4 := Lib.hid (And.intro h5 h6); clear h5 h6))
            go_returns
            refine fix_of (HB.out.1.alloc HB.out.1.size _) H4.out.1 H4.out.2 (fun c h => by simp at h) (by simp) (by omega) (by omega) HN.out ?_
            have hk : powF b = X - 52 := by have := HM.out.2.1; omega
            rw [← HM.out.1, hk]
            have := few_zero m prec X hmlt hp (by rw [← HGD.out]; exact HG0.out)
            simpa [numL] using this
end Go.Proofs.YtnfddblpenninaaDoor
