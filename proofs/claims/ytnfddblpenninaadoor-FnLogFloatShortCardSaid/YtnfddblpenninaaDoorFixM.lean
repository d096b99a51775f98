/- Whether a text is the nearest one with so many digits behind the point: the walk. (Under way.) -/
import Derived.Test.YtnfddblpenninaaDoorMgF
namespace Go.Proofs.YtnfddblpenninaaDoor
open Go.RowKit

theorem signed_mem {neg : Bool} {l : List UInt8} (hl : Plain l) : ∀ c ∈ signed neg l, c.toNat = 45 ∨ c.toNat = 46 ∨ (48 ≤ c.toNat ∧ c.toNat ≤ 57) := by
  intro c hc
  cases neg
  · exact .inr (hl c hc)
  · rcases List.mem_cons.1 hc with rfl | hc
    · exact .inl rfl
    · exact .inr (hl c hc)
/-- A float's parts. -/
def fracF (b : Nat) : Nat := b % 4503599627370496
def expF (b : Nat) : Nat := b / 4503599627370496 % 2048
def manF (b : Nat) : Nat := if expF b = 0 then fracF b else fracF b + 4503599627370496
def powF (b : Nat) : Int := if expF b = 0 then -1074 else (expF b : Int) - 1075
/-- The text is right: twice its digits, less and more one, lie around twice the float. -/
def Right (d n m : Nat) (k : Int) : Prop :=
  (d = 0 ∨ (d ≠ 0 ∧ sideN (2 * d - 1) (-(n : Int)) m (k + 1) = -1) ∨ (d ≠ 0 ∧ sideN (2 * d - 1) (-(n : Int)) m (k + 1) = 0 ∧ d % 2 = 0)) ∧
  (sideN (2 * d + 1) (-(n : Int)) m (k + 1) = 1 ∨ (sideN (2 * d + 1) (-(n : Int)) m (k + 1) = 0 ∧ d % 2 = 0))
theorem man_lt (b : Nat) : manF b < 9007199254740992 := by
  unfold manF fracF
  split <;> omega
theorem pow_bounds (b : Nat) : -1074 ≤ powF b ∧ powF b ≤ 972 := by
  have hx : expF b < 2048 := by unfold expF; omega
  unfold powF
  split <;> omega
theorem one_word (w : World) (x : Nat) (hx : x < 4294967296) : NatAt (w.alloc (.cells #[.int .u32 (x : Int)] 40)) (some ⟨w.heap.size, 0, none⟩) [x] := by
  have hw := Whole.new w 40 #[.int .u32 (x : Int)]
  refine ⟨by simpa using hx, fun i hi => ⟨_, rfl, hw.lt, ?_⟩⟩
  rw [hw.cell]
  rcases i with _ | i
  · simp [wordV]
  · simp at hi
set_option maxRecDepth 100000 in
set_option maxHeartbeats 8000000 in
theorem fixed_walk (neg : Bool) (s : ByteArray) (l : List UInt8) (hs : s.data.toList = signed neg l) (hl : Plain l) (hn : l.length ≤ 400) (hc0 : 0 < cntD l) (c0 : UInt8) (l' : List UInt8) (hlc : l = c0 :: l') (n b : Nat) (hbh : behindD l l.length = n) (hn1 : n ≤ 12)
    (hdot : n = 0 → ∀ c ∈ l, c.toNat ≠ 46) (hb : b < 18446744073709551616) (hnan : (FloatKind.f64.format.order b b != some .eq) = false) (hinf : infB b = false) (hsg : decide (9223372036854775808 ≤ b) = neg) (hok : Right (numD l) n (manF b) (powF b)) (w : World) :
    Calls Tryd.prog 5 #[.string s, .float .f64 b, .int .i64 (n : Int)] w fun e w' => e = .returned (.bool true) ∧ Below w.heap.size w w' := by
  have c9 := decimal_walk neg s l hs hl (by omega) hc0 c0 l' hlc w
  have C9 := Lib.hid c9
  have HS := Lib.hid hs
  have HL := Lib.hid (And.intro hl (And.intro hc0 (And.intro hlc (And.intro hbh hdot))))
  have C10 := Lib.hid (fun w => nan_any b w)
  have C11 := Lib.hid (fun w => inf_any b w hb)
  have C12 := Lib.hid (fun w => sign_any b w hb)
  have HOK := Lib.hid hok
  clear c9 hs hl hc0 hlc hbh hdot hok
  go_enter Tryd.func5, Tryd.ntmps5
  go_wp2_with (first
    | (go_at_call 9; refine C9.out.mono ?_; rintro e w1 ⟨q, c, k, ys, rfl, hR⟩; have HR := Lib.hid hR; clear hR; rw [HL.out.2.2.2.1])
    | (go_at_call 10; refine (C10.out _).mono ?_; rw [hnan]; rintro e w2 ⟨rfl, rfl⟩)
    | (go_at_call 11; refine (C11.out _).mono ?_; rw [hinf]; rintro e w2 ⟨rfl, rfl⟩)
    | (go_at_call 12; refine (C12.out _).mono ?_; rw [hsg]; rintro e w2 ⟨rfl, rfl⟩))
  obtain ⟨z, hz⟩ : ∃ z, z = s.size := ⟨_, rfl⟩
  have hzl : z ≤ 1000 := by
    have hsl : (signed neg l).length ≤ l.length + 1 := by unfold signed; split <;> simp
    rw [hz, size_of HS.out]
    omega
  have hz2 : s.size = z := hz.symm
  clear hz
  obtain ⟨wo, hwo⟩ : ∃ wo, wo = w2 := ⟨_, rfl⟩
  subst hwo
  go_loopw [11] (fun vi wr => ∃ i : Nat, vi = .int .i64 i ∧ i ≤ z ∧ wr = wo) (fun vi _ => z - (intOf vi).toNat)
  case atStart => exact ⟨0, rfl, Nat.zero_le _, rfl⟩
  case round =>
    obtain ⟨i, rfl, hi, rfl⟩ := hrel
    rcases Nat.eq_or_lt_of_le hi with rfl | hiz
    · have hr := bits_run b wr
      have e1 : bits .and .u64 (b : Int) 4503599627370495 = (fracF b : Int) := by
        have := bits_and_u64_nat b 4503599627370495 hb (by omega)
        rw [show (4503599627370495 : Nat) = 2 ^ 52 - 1 from rfl, Nat.and_two_pow_sub_one_eq_mod] at this
        exact this
      have e2 : bits .and .u64 ((b : Int) / 4503599627370496) 2047 = (expF b : Int) := by
        have := bits_and_u64_nat (b / 4503599627370496) 2047 (by omega) (by omega)
        rw [show (2047 : Nat) = 2 ^ 11 - 1 from rfl, Nat.and_two_pow_sub_one_eq_mod] at this
        exact this
      have e3 : bits .or .u64 (fracF b : Int) 4503599627370496 = ((fracF b + 4503599627370496 : Nat) : Int) := by
        have := bits_or_u64_nat (fracF b) 4503599627370496 (by unfold fracF; omega) (by omega)
        have h := Nat.two_pow_add_eq_or_of_lt (i := 52) (b := fracF b) (by unfold fracF; omega) 1
        have h2 : fracF b ||| 4503599627370496 = fracF b + 4503599627370496 := by
          rw [Nat.or_comm]
          exact h.symm.trans (Nat.add_comm _ _)
        rw [h2] at this
        exact this
      have hx : expF b < 2048 := by unfold expF; omega
      go_upto_if 88 with fail
      go_cut [13, 15] (fun vm vk wc => vm = .int .u64 (manF b : Int) ∧ vk = .int .i64 (powF b) ∧ wc = wr)
      case first =>
        by_cases h0 : expF b = 0
        · have hq : ((expF b : Int) == 0) = true := by simp; exact h0
          have H0 := Lib.hid h0
          clear h0
          go_wp2_with fail
          go_meet
          exact ⟨by rw [manF, if_pos H0.out], by rw [powF, if_pos H0.out], rfl⟩
        · have hq : ((expF b : Int) == 0) = false := by simp; omega
          have H0 := Lib.hid h0
          clear h0
          go_wp2_with fail
          go_meet
          exact ⟨by rw [manF, if_neg H0.out]; rfl, by rw [powF, if_neg H0.out], rfl⟩
      case rest =>
        obtain ⟨rfl, rfl, hwc⟩ := hcut
        obtain ⟨wm, hwm⟩ : ∃ wm, wm = wc := ⟨_, rfl⟩
        rw [← hwm] at hwc ⊢
        subst hwc
        clear hwm
        have hR2 := HR.out
        have hk9 : k ≤ 400 := by have := hR2.2.2.2.1; omega
        obtain ⟨m, hm⟩ : ∃ m, m = manF b := ⟨_, rfl⟩
        obtain ⟨pw, hpw⟩ : ∃ pw, pw = powF b := ⟨_, rfl⟩
        have hmlt := man_lt b
        have hpb := pow_bounds b
        have hok := HOK.out
        rw [← hm] at hmlt hok ⊢
        rw [← hpw] at hpb hok ⊢
        obtain ⟨D, hD⟩ : ∃ D, D = numD l := ⟨_, rfl⟩
        rw [← hD] at hok
        have hwv : wval ys = D := by rw [hR2.2.2.1, List.take_length, hD]
        obtain ⟨hp1, hp2⟩ := hpb
        have HY := Lib.hid (And.intro hR2.1 (And.intro hR2.2.1.1 (And.intro hR2.2.1.2 (And.intro hwv hR2.2.2.2.2))))
        have HO := Lib.hid hok
        clear hR2 hok hwv hm hpw hD e1 e2 e3 hx hr
        have hi1 : -1500 ≤ pw + 1 := by omega
        have hi2 : pw + 1 ≤ 1500 := by omega
        go_upto_region 16 with (first
          | (go_at_call 14; refine (times_walk q c ys 2 0 _ HY.out.2.1 k HY.out.1 (by omega) (by omega) (by omega)).mono ?_; rintro e1 w3 ⟨q2, c2, zs, rfl, h1, h2, h3, h4⟩; have H2 := Lib.hid (And.intro h1 (And.intro (h2.trans (by rw [HY.out.2.2.2.1, Nat.add_zero, Nat.mul_comm] : _ = 2 * D)) (And.intro h3 h4))); clear h1 h2 h3 h4))
        obtain ⟨z, hz⟩ : ∃ z, z = decide (D = 0) := ⟨_, rfl⟩
        have HZ := Lib.hid hz
        clear hz
        go_cut [17] (fun vb wc => vb = .bool z ∧ Below w3.heap.size w3 wc)
        case first =>
          have hcm : cmpN (2 * D) 0 = if D = 0 then 0 else 1 := by unfold cmpN; split <;> split <;> first | rfl | omega
          have HCM := Lib.hid hcm
          clear hcm
          by_cases hd0 : D = 0
          all_goals
            have hD0 := Lib.hid hd0
            clear hd0
            go_wp2_with (first
              | (go_at_call 15; refine (order_walk q2 (some ⟨w3.heap.size, 0, none⟩) c2 1 zs.length 1 zs [0] _ (H2.out.1.1.below ((Below.refl w3.heap.size w3).alloc (Nat.le_refl _) _)) (one_word w3 0 (by omega)) rfl rfl (by have := H2.out.2.2.1; omega) (by omega) H2.out.1.2 (Nat.le_refl 1)).mono ?_; rw [show wval [0] = 0 from rfl, H2.out.2.1, HCM.out]; (first | rw [if_pos hD0.out] | rw [if_neg hD0.out]); rintro e3 w4 ⟨rfl, h4⟩; have H4 := Lib.hid h4; clear h4))
            go_meet
            exact ⟨congrArg Value.bool (by rw [HZ.out]; simp [hD0.out]), below_next ((Below.refl w3.heap.size w3).alloc (Nat.le_refl _) _) H4.out⟩
        case rest =>
          obtain ⟨rfl, hbw⟩ := hcut
          have hb3 := below_next H2.out.2.2.2 hbw
          have HB3 := Lib.hid (And.intro hbw hb3)
          clear hbw hb3
          go_upto_if 98 with fail
          go_cut [17] (fun vb wz => vb = .bool true ∧ Below wm.heap.size wm wz)
          case first =>
            cases z
            · have hd0 : D ≠ 0 := of_decide_eq_false HZ.out.symm
              have hD0 := Lib.hid hd0
              clear hd0
              have c16 := minus_walk q2 c2 zs.length zs wc (H2.out.1.1.below HB3.out.1) rfl (by have := H2.out.2.2.1; omega) (by rw [H2.out.2.1]; have := hD0.out; omega)
              rw [H2.out.2.1] at c16
              have C16 := Lib.hid c16
              clear c16
              have hor : (sideN (2 * D - 1) (-(n : Int)) m (pw + 1) = -1) ∨ (sideN (2 * D - 1) (-(n : Int)) m (pw + 1) = 0 ∧ D % 2 = 0) := by
                rcases HO.out.1 with h | h | h
                · exact absurd h hD0.out
                · exact .inl h.2
                · exact .inr h.2
              rcases hor with h17 | ⟨h17, hev⟩
              · have H17 := Lib.hid h17
                clear h17
                go_wp2_with (first
                  | (go_at_call 16; refine C16.out.mono ?_; rintro e4 w4 ⟨q4, c4, us, rfl, h1, h2, h3, h4⟩; have H4 := Lib.hid (And.intro h1 (And.intro h2 (And.intro h3 h4))); clear h1 h2 h3 h4)
                  | (go_at_call 17; refine (side_walk q4 c4 us.length us (-(n : Int)) (pw + 1) m _ H4.out.1.1 rfl (by have := H4.out.2.2.1; have := H2.out.2.2.1; omega) H4.out.1.2 (by omega) (by omega) (by omega) hi1 hi2).mono ?_; rw [H4.out.2.1, H17.out]; rintro e5 w5 ⟨rfl, h5⟩; have H5 := Lib.hid h5; clear h5))
                go_meet
                exact ⟨rfl, below_next (below_next HB3.out.2 H4.out.2.2.2) H5.out⟩
              · have H17 := Lib.hid h17
                have HE := Lib.hid hev
                clear h17 hev
                go_wp2_with (first
                  | (go_at_call 16; refine C16.out.mono ?_; rintro e4 w4 ⟨q4, c4, us, rfl, h1, h2, h3, h4⟩; have H4 := Lib.hid (And.intro h1 (And.intro h2 (And.intro h3 h4))); clear h1 h2 h3 h4)
                  | (go_at_call 17; refine (side_walk q4 c4 us.length us (-(n : Int)) (pw + 1) m _ H4.out.1.1 rfl (by have := H4.out.2.2.1; have := H2.out.2.2.1; omega) H4.out.1.2 (by omega) (by omega) (by omega) hi1 hi2).mono ?_; rw [H4.out.2.1, H17.out]; rintro e5 w5 ⟨rfl, h5⟩; have H5 := Lib.hid h5; clear h5)
                  | (go_at_call 18; refine (even_walk q c k ys _ ((HY.out.2.1.below HB3.out.2).below (below_next H4.out.2.2.2 H5.out)) HY.out.1 (by omega)).mono ?_; rw [HY.out.2.2.2.1, HE.out]; rintro e6 w6 ⟨rfl, rfl⟩))
                go_meet
                exact ⟨rfl, below_next (below_next HB3.out.2 H4.out.2.2.2) H5.out⟩
            · go_wp2_with fail
              go_meet
              exact ⟨rfl, HB3.out.2⟩
          case rest =>
            obtain ⟨rfl, hbz⟩ := hcut
            have HBZ := Lib.hid hbz
            clear hbz
            have c14 := times_walk q c ys 2 1 wc (HY.out.2.1.below HBZ.out) k HY.out.1 (by omega) (by omega) (by omega)
            rw [HY.out.2.2.2.1, Nat.mul_comm D 2] at c14
            have C14 := Lib.hid c14
            clear c14
            rcases HO.out.2 with h17 | ⟨h17, hev⟩
            · have H17 := Lib.hid h17
              clear h17
              go_wp2_with (first
                | (go_at_call 14; refine C14.out.mono ?_; rintro e4 w5 ⟨q5, c5, vs, rfl, h1, h2, h3, h4⟩; have H5 := Lib.hid (And.intro h1 (And.intro h2 (And.intro h3 h4))); clear h1 h2 h3 h4)
                | (go_at_call 17; refine (side_walk q5 c5 vs.length vs (-(n : Int)) (pw + 1) m _ H5.out.1.1 rfl (by have := H5.out.2.2.1; omega) H5.out.1.2 (by omega) (by omega) (by omega) hi1 hi2).mono ?_; rw [H5.out.2.1, H17.out]; rintro e6 w6 ⟨rfl, h6⟩; have H6 := Lib.hid h6; clear h6))
              go_returns
              exact ⟨rfl, below_next (below_next (below_next HY.out.2.2.2.2 HBZ.out) H5.out.2.2.2) H6.out⟩
            · have H17 := Lib.hid h17
              have HE := Lib.hid hev
              clear h17 hev
              go_wp2_with (first
                | (go_at_call 14; refine C14.out.mono ?_; rintro e4 w5 ⟨q5, c5, vs, rfl, h1, h2, h3, h4⟩; have H5 := Lib.hid (And.intro h1 (And.intro h2 (And.intro h3 h4))); clear h1 h2 h3 h4)
                | (go_at_call 17; refine (side_walk q5 c5 vs.length vs (-(n : Int)) (pw + 1) m _ H5.out.1.1 rfl (by have := H5.out.2.2.1; omega) H5.out.1.2 (by omega) (by omega) (by omega) hi1 hi2).mono ?_; rw [H5.out.2.1, H17.out]; rintro e6 w6 ⟨rfl, h6⟩; have H6 := Lib.hid h6; clear h6)
                | (go_at_call 18; refine (even_walk q c k ys _ ((HY.out.2.1.below HBZ.out).below (below_next H5.out.2.2.2 H6.out)) HY.out.1 (by omega)).mono ?_; rw [HY.out.2.2.2.1, HE.out]; rintro e7 w7 ⟨rfl, rfl⟩))
              go_returns
              exact ⟨rfl, below_next (below_next (below_next HY.out.2.2.2.2 HBZ.out) H5.out.2.2.2) H6.out⟩
    · have hil : i < (signed neg l).length := by rw [← HS.out]; have := size_of HS.out; simp; omega
      have hy := byte_at s (signed neg l) HS.out i hil
      have hpl := signed_mem (neg := neg) HL.out.1 _ (List.getElem_mem hil)
      have hd0 : n = 0 → (signed neg l)[i].toNat ≠ 46 := fun h0 => by
        have hm := List.getElem_mem hil
        revert hm
        generalize (signed neg l)[i] = x
        intro hm
        cases neg
        · exact HL.out.2.2.2.2 h0 x hm
        · rcases List.mem_cons.1 hm with rfl | hm
          · decide
          · exact HL.out.2.2.2.2 h0 x hm
      obtain ⟨y, hyy⟩ : ∃ y, y = (signed neg l)[i].toNat := ⟨_, rfl⟩
      rw [← hyy] at hy hpl hd0
      clear hyy hi
      have HD := Lib.hid hd0
      clear hd0
      rcases hpl with rfl | rfl | ⟨h1, h2⟩
      · go_wp2_with fail
        exact ⟨⟨i + 1, by go_num, by omega, trivial⟩, by simp [intOf]; omega⟩
      · have hn0 : ((n : Int) == 0) = false := by have := HD.out; simp; omega
        have hn2 : (n == 0) = false := by have := HD.out; simp; omega
        go_wp2_with fail
        exact ⟨⟨i + 1, by go_num, by omega, trivial⟩, by simp [intOf]; omega⟩
      · have hq1 : ((y : Int) == 101) = false := by simp; omega
        have hq2 : ((y : Int) == 69) = false := by simp; omega
        have H12 := Lib.hid (And.intro h1 h2)
        by_cases h46 : y = 46
        · omega
        have hq3 : ((y : Int) == 46) = false := by simp; omega
        clear h1 h2 h46
        go_wp2_with fail
        exact ⟨⟨i + 1, by go_num, by omega, trivial⟩, by simp [intOf]; omega⟩
end Go.Proofs.YtnfddblpenninaaDoor
