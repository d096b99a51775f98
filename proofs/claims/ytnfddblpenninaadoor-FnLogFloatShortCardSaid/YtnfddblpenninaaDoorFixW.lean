/- A decimal times a power of two: the walk. -/
import Derived.Test.YtnfddblpenninaaDoorMgH
import Derived.BigQuiet
namespace Go.Proofs.YtnfddblpenninaaDoor
open Go.RowKit

theorem dig_of (n : Nat) (h : n < 10) : ∃ c : UInt8, c.toNat = 48 + n := ⟨UInt8.ofNat (48 + n), digit_nat n h⟩
/-- What a shift to the left leaves. -/
def LeftEnd (w : World) (a nd k : Nat) (d : Nat → UInt8) (dp : Int) (e : Ending) (w' : World) : Prop :=
  e = .returned (.tuple #[]) ∧ ∃ (d' : Nat → UInt8) (n' t : Nat), n' ≤ nd + t ∧ t ≤ 18 ∧ Lead d' n' ∧ (d' (n' - 1)).toNat ≠ 48 ∧ sufN d' 0 n' * 10 ^ (nd + t - n') = sufN d 0 nd * 2 ^ k ∧ Dec w' a d' n' (dp + t) ∧ Keeps (fun b => b = a) w w'
/-- Before the digit in front of ρ is taken. -/
def LMul (w wr : World) (a nd k t : Nat) (d : Nat → UInt8) (dp : Int) (ρ x : Nat) : Prop :=
  ∃ d' : Nat → UInt8, Dec wr a d' nd dp ∧ (∀ i, i < ρ → d' i = d i) ∧ (∀ i, ρ + t ≤ i → i < nd + t → 48 ≤ (d' i).toNat ∧ (d' i).toNat ≤ 57) ∧ x * 10 ^ (nd - ρ) + sufN d' (ρ + t) (nd - ρ) = sufN d ρ (nd - ρ) * 2 ^ k ∧ x < 2 ^ k ∧ Keeps (fun b => b = a) w wr
/-- Before a digit is put in front of τ. -/
def LPut (w wr : World) (a nd k t : Nat) (d : Nat → UInt8) (dp : Int) (τ x : Nat) : Prop :=
  ∃ d' : Nat → UInt8, Dec wr a d' nd dp ∧ (∀ i, τ ≤ i → i < nd + t → 48 ≤ (d' i).toNat ∧ (d' i).toNat ≤ 57) ∧ x * 10 ^ (nd + t - τ) + sufN d' τ (nd + t - τ) = sufN d 0 nd * 2 ^ k ∧ Keeps (fun b => b = a) w wr
theorem LMul.step {w wr : World} {a nd k t : Nat} {d d' : Nat → UInt8} {dp : Int} {r x g : Nat} {ch : UInt8} {v : Int} (f1 : Dec wr a d' nd dp) (f2 : ∀ i, i < r + 1 → d' i = d i) (f3 : ∀ i, r + 1 + t ≤ i → i < nd + t → 48 ≤ (d' i).toNat ∧ (d' i).toNat ≤ 57)
    (f4 : x * 10 ^ (nd - (r + 1)) + sufN d' (r + 1 + t) (nd - (r + 1)) = sufN d (r + 1) (nd - (r + 1)) * 2 ^ k) (f5 : x < 2 ^ k) (f6 : Keeps (fun b => b = a) w wr) (hr : r + 1 ≤ nd) (hnt : nd + t ≤ 800) (hg : (d r).toNat = 48 + g) (hg9 : g ≤ 9)
    (hch : ch.toNat = 48 + (x + g * 2 ^ k) % 10) (hv : v = (ch.toNat : Int)) : LMul w (wr.setCell ⟨a, r + t, none⟩ (.int .u8 v)) a nd k t d dp r ((x + g * 2 ^ k) / 10) := by
  refine ⟨putD d' (r + t) ch, f1.setDig (r + t) ch v hv (by omega), fun i hi => ?_, fun i h1 h2 => ?_, ?_, ?_, f6.set (p := ⟨a, r + t, none⟩) (.inl rfl) _⟩
  · rw [putD_other _ _ (by omega)]
    exact f2 i (by omega)
  · by_cases h : i = r + t
    · rw [h, putD_same, hch]
      omega
    · rw [putD_other _ _ h]
      exact f3 i (by omega) h2
  · obtain ⟨p, hp⟩ : ∃ p, p = nd - (r + 1) := ⟨_, rfl⟩
    rw [← hp] at f4
    rw [show nd - r = p + 1 by omega, sufN, sufN, putD_same, hch, hg, show 48 + g - 48 = g by omega, Nat.add_sub_cancel_left, sufN_congr (d' := d') p (r + t + 1) fun i h1 h2 => putD_other _ _ (by omega), show r + t + 1 = r + 1 + t by omega, Nat.add_mul, ← f4, Nat.pow_succ]
    have h1 := Nat.div_add_mod (x + g * 2 ^ k) 10
    have h2 : (x + g * 2 ^ k) / 10 * (10 ^ p * 10) + (x + g * 2 ^ k) % 10 * 10 ^ p = (x + g * 2 ^ k) * 10 ^ p := by
      conv => rhs; rw [← h1]
      rw [Nat.add_mul, Nat.mul_comm (10 ^ p) 10, ← Nat.mul_assoc, Nat.mul_comm _ 10]
    rw [← Nat.add_assoc, h2, Nat.add_mul, Nat.mul_right_comm g]
    omega
  · have : g * 2 ^ k ≤ 9 * 2 ^ k := Nat.mul_le_mul_right _ hg9
    omega
theorem LPut.step {w wr : World} {a nd k t : Nat} {d d' : Nat → UInt8} {dp : Int} {r x : Nat} {ch : UInt8} {v : Int} (f1 : Dec wr a d' nd dp) (f3 : ∀ i, r + 1 ≤ i → i < nd + t → 48 ≤ (d' i).toNat ∧ (d' i).toNat ≤ 57)
    (f4 : x * 10 ^ (nd + t - (r + 1)) + sufN d' (r + 1) (nd + t - (r + 1)) = sufN d 0 nd * 2 ^ k) (f6 : Keeps (fun b => b = a) w wr) (hr : r + 1 ≤ nd + t) (hnt : nd + t ≤ 800)
    (hch : ch.toNat = 48 + x % 10) (hv : v = (ch.toNat : Int)) : LPut w (wr.setCell ⟨a, r, none⟩ (.int .u8 v)) a nd k t d dp r (x / 10) := by
  refine ⟨putD d' r ch, f1.setDig r ch v hv (by omega), fun i h1 h2 => ?_, ?_, f6.set (p := ⟨a, r, none⟩) (.inl rfl) _⟩
  · by_cases h : i = r
    · rw [h, putD_same, hch]
      omega
    · rw [putD_other _ _ h]
      exact f3 i (by omega) h2
  · obtain ⟨p, hp⟩ : ∃ p, p = nd + t - (r + 1) := ⟨_, rfl⟩
    rw [← hp] at f4
    rw [show nd + t - r = p + 1 by omega, sufN, putD_same, hch, Nat.add_sub_cancel_left, sufN_congr (d' := d') p (r + 1) fun i h1 h2 => putD_other _ _ (by omega), ← f4, Nat.pow_succ]
    have h1 := Nat.div_add_mod x 10
    have h2 : x / 10 * (10 ^ p * 10) + x % 10 * 10 ^ p = x * 10 ^ p := by
      conv => rhs; rw [← h1]
      rw [Nat.add_mul, Nat.mul_comm (10 ^ p) 10, ← Nat.mul_assoc, Nat.mul_comm _ 10]
    rw [← Nat.add_assoc, h2]
theorem lead_of (d : Nat → UInt8) (n : Nat) (hn : 0 < n) (hd : ∀ i, i < n → 48 ≤ (d i).toNat ∧ (d i).toNat ≤ 57) (h : 10 ^ (n - 1) ≤ sufN d 0 n) : Lead d n := by
  refine ⟨hn, hd, fun h0 => ?_⟩
  obtain ⟨p, rfl⟩ : ∃ p, n = p + 1 := ⟨n - 1, by omega⟩
  rw [sufN, h0, Nat.add_sub_cancel] at h
  have := sufN_lt d p (0 + 1) fun i h1 h2 => (hd i (by omega)).2
  omega
set_option maxRecDepth 100000 in
theorem cut_digits (a m : Nat) (h : m ≤ 800) : ∀ W, (Instr.sliceAt 103 (.pointer (some ⟨a, 0, none⟩)) (some (.int .i64 0)) (some (.int .i64 (m : Int))) none).run Tryd.prog W = .ok (.slice (some ⟨a, 0, none⟩) m 800) W := fun W => by
  have hal : Tryd.prog.arrayLen 103 = 800 := rfl
  rw [run_sliceAt_array_lh W 103 ⟨a, 0, none⟩ rfl .i64 .i64 0 (m : Int) (by omega) (by omega) (by rw [hal]; omega)]
  go_simp
set_option maxRecDepth 100000 in
set_option maxHeartbeats 4000000 in
theorem left_walk (a nd k : Nat) (d : Nat → UInt8) (dp : Int) (w : World) (hG : Glob w) (h : Dec w a d nd dp) (hL : Lead d nd) (hnd : nd ≤ 20) (hk1 : 1 ≤ k) (hk2 : k ≤ 17) (hp1 : -1000 ≤ dp) (hp2 : dp ≤ 1000) :
    Calls Tryd.prog 88 #[.pointer (some ⟨a, 0, none⟩), .int .u64 (k : Int)] w (LeftEnd w a nd k d dp) := by
  obtain ⟨b, off, c, hg1, hg2, hg3, hg4⟩ := hG.cheat
  obtain ⟨hg5, hg6⟩ := hg4 k (by omega)
  have hcut := cut_facts ⟨k - 1, by omega⟩
  simp only [show k - 1 + 1 = k by omega] at hcut
  have hc := h.cnt
  have hf := h.frozen
  have HH := Lib.hid (And.intro h (And.intro hL hcut))
  obtain ⟨dl, hdl⟩ : ∃ dl, dl = (rowC k).1 := ⟨_, rfl⟩
  rw [← hdl, Nat.mul_comm] at hg5
  have HDL := Lib.hid hdl
  clear hdl
  have hcs := cut_digits a nd (by omega)
  rw [Nat.mul_comm, ← Nat.add_assoc] at hg6
  clear hg4 hcut h hL
  go_enter Tryd.func88, Tryd.ntmps88
  go_upto_region 1 with fail
  have hLs : ∃ z : Bool, z = decide (sufN d 0 nd * 10 ^ cutN k < sufN (cutD k) 0 (cutN k) * 10 ^ nd) := ⟨_, rfl⟩
  obtain ⟨z, hz⟩ := hLs
  have c99 := fun q => prefix_walk a nd (cutN k) 800 d ⟨(rowC k).2.toArray⟩ (rowC k).2 rfl rfl (cutD k) (fun i h => by unfold cutD; rw [List.getD_eq_getElem?_getD, List.getElem?_eq_getElem h]; rfl) (w.drewN q) (fun i hi => HH.out.1.dig i (by omega)) HH.out.2.1.2.1 HH.out.2.2.2.2.2.2.2.2.2 HH.out.2.2.2.2.2.2.2.2.1 (by omega) (by have := HH.out.2.2.2.2.2.1; omega) (by omega)
  rw [← hz] at c99
  have C99 := Lib.hid c99
  have HZ := Lib.hid hz
  clear c99 hz
  go_wp2_with fail
  go_quiet ((go_at_call 99; exact Calls.quiet_of (C99.out _)))
  have hD1 := HH.out.1.drewN nq
  obtain ⟨w1, hw1⟩ : ∃ w1, w1 = w.drewN nq := ⟨_, rfl⟩
  rw [← hw1] at hD1 ⊢
  have hk1 : Keeps (fun b => b = a) w w1 := by rw [hw1]; exact (Keeps.refl _ w).drewN nq
  obtain ⟨t, ht⟩ : ∃ t, t = if z then dl - 1 else dl := ⟨_, rfl⟩
  have hN := sufN_lead d nd HH.out.2.1
  have hN2 := sufN_lt d nd 0 fun i _ h => (HH.out.2.1.2.1 i (by omega)).2
  have hsd := shift_digits (sufN d 0 nd) nd k (cutN k) dl hN hN2 HH.out.2.1.1 (by rw [HDL.out]; exact HH.out.2.2.2.1) HH.out.2.2.2.2.1 HH.out.2.2.2.2.2.1 HH.out.2.2.2.2.2.2.1 HH.out.2.2.2.2.2.2.2.1
  rw [← HH.out.2.2.1] at hsd
  have hdl1 : 1 ≤ dl ∧ dl ≤ 18 := by
    have h1 := HH.out.2.2.2.1
    have h2 := HH.out.2.2.2.2.2.1
    rw [← HDL.out] at h1
    omega
  have hT : 10 ^ (nd + t - 1) ≤ sufN d 0 nd * 2 ^ k ∧ sufN d 0 nd * 2 ^ k < 10 ^ (nd + t) := by
    rw [ht]
    cases z
    · exact hsd.2 (of_decide_eq_false HZ.out.symm)
    · exact hsd.1 (of_decide_eq_true HZ.out.symm)
  have ht1 : (t : Int) = if z then (dl : Int) - 1 else dl := by rw [ht]; split <;> omega
  have ht2 : t ≤ 18 := by rw [ht]; split <;> omega
  have HT := Lib.hid (And.intro ht1 (And.intro hT (And.intro hD1 hk1)))
  have hc1 := hD1.cnt
  have hf1 := hD1.frozen
  obtain ⟨hdl2, hdl3⟩ := hdl1
  clear hc hf hg1 hg5 hg6 hcs hw1 ht hN hN2 hsd hT ht1 hD1 hk1 hG hg2 hg3
  go_upto_if 30 with fail
  go_cut [4] (fun v wc => v = .int .i64 (t : Int) ∧ wc = w1)
  case first =>
    cases z
    · go_wp2_with fail
      go_meet
      exact ⟨congrArg (Value.int .i64) (by have := HT.out.1; simpa using this.symm), rfl⟩
    · go_wp2_with fail
      go_meet
      exact ⟨congrArg (Value.int .i64) (by have := HT.out.1; simpa using this.symm), rfl⟩
  case rest =>
    obtain ⟨rfl, hwc⟩ := hcut
    obtain ⟨wm, hwm⟩ : ∃ wm, wm = wc := ⟨_, rfl⟩
    rw [← hwm] at hwc ⊢
    subst hwc
    clear hwm
    go_wp2_with fail
    clear hc1 hf1
    have hpk : 2 ^ k ≤ 131072 := Nat.le_trans (Nat.pow_le_pow_right (by decide) hk2) (by decide)
    have hpk0 : 0 < 2 ^ k := Nat.pow_pos (by decide)
    go_loopw [5, 6, 7] (fun v5 v6 v7 wr => ∃ ρ x : Nat, v5 = .int .i64 ((ρ : Int) - 1) ∧ v6 = .int .i64 ((ρ : Int) + t) ∧ v7 = .int .u64 x ∧ ρ ≤ nd ∧ x ≤ 131072 ∧ Hid (LMul w wr a nd k t d dp ρ x)) (fun v5 _ _ _ => (intOf v5 + 1).toNat)
    case atStart =>
      refine ⟨nd, 0, rfl, rfl, rfl, Nat.le_refl _, by omega, Lib.hid ⟨d, HT.out.2.2.1, fun i _ => rfl, fun i h1 h2 => by omega, by simp [sufN], hpk0, HT.out.2.2.2⟩⟩
    case round =>
      obtain ⟨ρ, x, rfl, rfl, rfl, hρ, hx, hM⟩ := hrel
      obtain ⟨d', f1, f2, f3, f4, f5, f6⟩ := hM.out
      have hf := f1.frozen
      have HM := Lib.hid (And.intro f1 (And.intro f2 (And.intro f3 (And.intro f4 (And.intro f5 f6)))))
      clear hM
      rcases Nat.eq_zero_or_pos ρ with rfl | hρ0
      · have hP : LPut w wr a nd k t d dp t x := by
          refine ⟨d', f1, fun i h1 h2 => f3 i (by omega) h2, ?_, f6⟩
          rw [Nat.add_sub_cancel]
          rw [Nat.sub_zero, Nat.zero_add] at f4
          exact f4
        have HP := Lib.hid hP
        clear hP f1 f2 f3 f4 f5 f6 hf HM
        go_wp2_with fail
        obtain ⟨wo, hwo⟩ : ∃ wo, wo = wr := ⟨_, rfl⟩
        rw [← hwo] at HP ⊢
        clear hwo
        go_loopw [6, 7] (fun v6 v7 wz => ∃ τ x : Nat, v6 = .int .i64 τ ∧ v7 = .int .u64 x ∧ τ ≤ t ∧ x ≤ 131072 ∧ Hid (LPut w wz a nd k t d dp τ x)) (fun v6 _ _ => (intOf v6).toNat)
        case atStart =>
          exact ⟨t, x, congrArg (Value.int .i64) (by omega), rfl, Nat.le_refl _, hx, HP⟩
        case round =>
          obtain ⟨τ, x, rfl, rfl, hτ, hx, hM⟩ := hrel
          obtain ⟨d', f1, f3, f4, f6⟩ := hM.out
          have HM := Lib.hid (And.intro f1 (And.intro f3 (And.intro f4 f6)))
          have hf := f1.frozen
          have hc := f1.cnt
          have hp := f1.pt
          rcases Nat.eq_zero_or_pos x with rfl | hx0
          · have h0 : τ = 0 := by
              rcases Nat.eq_zero_or_pos τ with h | h
              · exact h
              · have h1 := sufN_lt d' (nd + t - τ) τ fun i h1 h2 => (f3 i h1 (by omega)).2
                have h2 : 10 ^ (nd + t - τ) ≤ 10 ^ (nd + t - 1) := Nat.pow_le_pow_right (by decide) (by omega)
                have h3 := HT.out.2.1.1
                omega
            subst h0
            have hlead : Lead d' (nd + t) := by
              refine lead_of d' (nd + t) (by have := HH.out.2.1.1; omega) (fun i hi => f3 i (Nat.zero_le _) hi) ?_
              rw [Nat.zero_mul, Nat.zero_add, Nat.sub_zero] at f4
              rw [f4]
              exact HT.out.2.1.1
            have hT := trim_walk a (nd + t) d' (dp + t) ((wr.setCell ⟨a, 800, none⟩ (.int .i64 ((nd : Int) + (t : Int)))).setCell ⟨a, 801, none⟩ (.int .i64 (dp + (t : Int)))) ((f1.setCnt (nd + t) _ (by omega)).setPt _) (by omega)
            have HTR := Lib.hid hT
            have HLD := Lib.hid hlead
            clear hM f1 f3 f4 f6 hlead hT
            go_wp2_with (first | (go_at_call 87; refine HTR.out.mono ?_; intro e1 w4 h4; have H4 := Lib.hid h4; clear h4; obtain rfl := H4.out.1))
            go_returns
            obtain ⟨_, n', hn', h5, h6, h7, h8, h9⟩ := trim_lead H4.out HLD.out
            refine ⟨rfl, d', n', t, hn', ht2, h5, h6, ?_, h8, ((HM.out.2.2.2.set (p := ⟨a, 800, none⟩) (.inl rfl) _).set (p := ⟨a, 801, none⟩) (.inl rfl) _).trans h9⟩
            rw [← h7]
            have f4 := HM.out.2.2.1
            rw [Nat.zero_mul, Nat.zero_add, Nat.sub_zero] at f4
            exact f4
          · have hτ0 : 0 < τ := by
              rcases Nat.eq_zero_or_pos τ with rfl | h
              · have h3 := HT.out.2.1.2
                rw [Nat.sub_zero] at f4
                have : 1 * 10 ^ (nd + t) ≤ x * 10 ^ (nd + t) := Nat.mul_le_mul_right _ hx0
                omega
              · exact h
            obtain ⟨r, rfl⟩ : ∃ r, τ = r + 1 := ⟨τ - 1, by omega⟩
            have hst := f1.dig r (by omega)
            obtain ⟨q, hq⟩ : ∃ q, q = x / 10 := ⟨_, rfl⟩
            obtain ⟨ch, hch⟩ := dig_of (x % 10) (by omega)
            have HX := Lib.hid (And.intro hq hch)
            clear hq hch f1 f3 f4 f6 hM hc hp
            go_wp2_with fail
            refine ⟨⟨r, q, congrArg (Value.int .i64) (by omega), congrArg (Value.int .u64) (by have := HX.out.1; omega), by omega, by have := HX.out.1; omega, Lib.hid ?_⟩, by simp [intOf]⟩
            rw [HX.out.1]
            refine LPut.step HM.out.1 HM.out.2.1 HM.out.2.2.1 HM.out.2.2.2 (by omega) (by omega) HX.out.2 ?_
            rw [HX.out.2]
            omega
      · obtain ⟨r, rfl⟩ : ∃ r, ρ = r + 1 := ⟨ρ - 1, by omega⟩
        have hdr := HH.out.2.1.2.1 r (by omega)
        obtain ⟨g, hg⟩ : ∃ g, (d r).toNat = 48 + g := ⟨(d r).toNat - 48, by omega⟩
        have hg9 : g ≤ 9 := by omega
        have hld := f1.dig r (by omega)
        rw [f2 r (by omega), hg] at hld
        have hst := f1.dig (r + t) (by omega)
        obtain ⟨z, hz⟩ : ∃ z, z = g * 2 ^ k := ⟨_, rfl⟩
        have hz9 : z ≤ 1179648 := by
          rw [hz]
          exact Nat.le_trans (Nat.mul_le_mul hg9 hpk) (by decide)
        have hzi : ((48 : Int) + (g : Int) - 48) * 2 ^ k = (z : Int) := by rw [hz, show (48 : Int) + (g : Int) - 48 = (g : Int) by omega]; simp
        obtain ⟨q, hq⟩ : ∃ q, q = (x + z) / 10 := ⟨_, rfl⟩
        obtain ⟨ch, hch⟩ := dig_of ((x + z) % 10) (by omega)
        have e1 : ((r + 1 : Nat) : Int) - 1 = (r : Int) := by omega
        rw [e1]
        have HX := Lib.hid (And.intro hg (And.intro hz (And.intro hq hch)))
        clear hg hz hq hch hdr f1 f2 f3 f4 f5 f6 e1
        go_wp2_with fail
        refine ⟨⟨r, q, rfl, congrArg (Value.int .i64) (by omega), congrArg (Value.int .u64) (by have := HX.out.2.2.1; omega), by omega, by have := HX.out.2.2.1; omega, Lib.hid ?_⟩, by simp [intOf]⟩
        have hX := HX.out
        rw [hX.2.2.1, hX.2.1]
        refine LMul.step HM.out.1 HM.out.2.1 HM.out.2.2.1 HM.out.2.2.2.1 HM.out.2.2.2.2.1 HM.out.2.2.2.2.2 hρ (by omega) hX.1 hg9 (by rw [← hX.2.1]; exact hX.2.2.2) ?_
        rw [hX.2.2.2]
        omega
#print axioms left_walk
end Go.Proofs.YtnfddblpenninaaDoor
