/- A decimal over a power of two: the walk. -/
import Derived.Test.YtnfddblpenninaaDoorFixW
import Derived.Deep.CutBlock
namespace Go.Proofs.YtnfddblpenninaaDoor
open Go.RowKit

/-- The number of the first r digits, zeros standing behind the n that count. -/
def virN (d : Nat → UInt8) (n : Nat) : Nat → Nat
  | 0 => 0
  | r + 1 => virN d n r * 10 + (if r < n then (d r).toNat - 48 else 0)
theorem virN_suf (d : Nat → UInt8) (n : Nat) : ∀ r, r ≤ n → virN d n r = sufN d 0 r
  | 0, _ => rfl
  | r + 1, h => by rw [virN, virN_suf d n r (by omega), if_pos (by omega), sufN_snoc, Nat.zero_add]
theorem virN_far (d : Nat → UInt8) (n : Nat) : ∀ j, virN d n (n + j) = sufN d 0 n * 10 ^ j
  | 0 => by rw [Nat.add_zero, virN_suf d n n (Nat.le_refl _), Nat.pow_zero, Nat.mul_one]
  | j + 1 => by rw [← Nat.add_assoc, virN, virN_far d n j, if_neg (by omega), Nat.pow_succ, Nat.add_zero, Nat.mul_assoc]
theorem virN_grow (d : Nat → UInt8) (n r : Nat) : ∀ j, virN d n r * 10 ^ j ≤ virN d n (r + j)
  | 0 => by rw [Nat.pow_zero, Nat.mul_one, Nat.add_zero]; exact Nat.le_refl _
  | j + 1 => by
    have := virN_grow d n r j
    rw [← Nat.add_assoc, virN, Nat.pow_succ, ← Nat.mul_assoc]
    omega
theorem virN_lead (d : Nat → UInt8) (n r : Nat) (h : Lead d n) (hr : 0 < r) : 10 ^ (r - 1) ≤ virN d n r := by
  have h1 : virN d n 1 = (d 0).toNat - 48 := by rw [virN, virN, if_pos h.1]; omega
  have h2 := virN_grow d n 1 (r - 1)
  have h3 := (h.2.1 0 h.1).1
  have h4 := h.2.2
  rw [show 1 + (r - 1) = r by omega, h1] at h2
  have : 1 * 10 ^ (r - 1) ≤ ((d 0).toNat - 48) * 10 ^ (r - 1) := Nat.mul_le_mul_right _ (by omega)
  omega

/-- What a shift to the right leaves. -/
def RightEnd (w : World) (a nd k : Nat) (d : Nat → UInt8) (dp : Int) (e : Ending) (w' : World) : Prop :=
  e = .returned (.tuple #[]) ∧ ∃ (d' : Nat → UInt8) (n' q r1 : Nat), n' ≤ q ∧ q ≤ 100 ∧ r1 ≤ 12 ∧ nd ≤ r1 + q ∧ Lead d' n' ∧ (d' (n' - 1)).toNat ≠ 48 ∧ sufN d' 0 n' * 10 ^ (q - n') * (10 * 2 ^ k) = sufN d 0 nd * 10 ^ (r1 + q - nd) ∧ Dec w' a d' n' (dp - ((r1 : Int) - 1)) ∧ Keeps (fun b => b = a) w w'

/-- q digits are laid, r are taken, x is what is carried. -/
def RShift (w wr : World) (a nd M : Nat) (d : Nat → UInt8) (dp : Int) (r q x : Nat) : Prop :=
  ∃ d' : Nat → UInt8, Dec wr a d' nd dp ∧ (∀ i, r ≤ i → i < nd → d' i = d i) ∧ (∀ i, i < q → 48 ≤ (d' i).toNat ∧ (d' i).toNat ≤ 57) ∧ virN d nd r = 10 * M * sufN d' 0 q + x ∧ Keeps (fun b => b = a) w wr
theorem RShift.step {w wr : World} {a nd M : Nat} {d d' : Nat → UInt8} {dp : Int} {r q x g : Nat} {ch : UInt8} {v : Int} (f1 : Dec wr a d' nd dp) (f2 : ∀ i, r ≤ i → i < nd → d' i = d i) (f3 : ∀ i, i < q → 48 ≤ (d' i).toNat ∧ (d' i).toNat ≤ 57)
    (f4 : virN d nd r = 10 * M * sufN d' 0 q + x) (f5 : Keeps (fun b => b = a) w wr) (hq : q < r) (hq8 : q < 800) (hx : x < 10 * M) (hg : g = if r < nd then (d r).toNat - 48 else 0)
    (hch : ch.toNat = 48 + x / M) (hv : v = (ch.toNat : Int)) : RShift w (wr.setCell ⟨a, q, none⟩ (.int .u8 v)) a nd M d dp (r + 1) (q + 1) (x % M * 10 + g) := by
  have hy : x / M < 10 := Nat.div_lt_of_lt_mul (by rw [Nat.mul_comm]; exact hx)
  refine ⟨putD d' q ch, f1.setDig q ch v hv hq8, fun i h1 h2 => ?_, fun i hi => ?_, ?_, f5.set (p := ⟨a, q, none⟩) (.inl rfl) _⟩
  · rw [putD_other _ _ (by omega)]
    exact f2 i (by omega) h2
  · by_cases h : i = q
    · rw [h, putD_same, hch]
      exact ⟨Nat.le_add_right _ _, Nat.add_le_add_left (Nat.le_of_lt_succ hy) 48⟩
    · rw [putD_other _ _ h]
      exact f3 i (by omega)
  · rw [virN, f4, sufN_snoc, Nat.zero_add, putD_same, hch, Nat.add_sub_cancel_left, ← hg, sufN_congr (d' := d') q 0 fun i h1 h2 => putD_other _ _ (by omega)]
    have h1 := Nat.div_add_mod x M
    have h2 : 10 * M * (sufN d' 0 q * 10 + x / M) = 10 * M * sufN d' 0 q * 10 + M * (x / M) * 10 := by
      rw [Nat.mul_add, Nat.mul_assoc (10 * M), Nat.mul_assoc 10 M (x / M), Nat.mul_comm 10 (M * (x / M))]
    rw [h2]
    omega
theorem and_mask (x k M : Nat) (hM : M = 2 ^ k) (hM0 : 0 < M) (hM1 : M ≤ 8589934592) (hx : x < 18446744073709551616) : bits .and .u64 (x : Int) ((M : Int) - 1) = ((x % M : Nat) : Int) := by
  have h := bits_and_u64_nat x (M - 1) hx (by omega)
  rw [show ((M - 1 : Nat) : Int) = (M : Int) - 1 by omega] at h
  rw [h, hM, Nat.and_two_pow_sub_one_eq_mod]
/-- At the end. -/
theorem RShift.done {nd M : Nat} {d d' : Nat → UInt8} {r1 q x1 : Nat} (hM0 : 0 < M) (f3 : ∀ i, i < q → 48 ≤ (d' i).toNat ∧ (d' i).toNat ≤ 57)
    (f4 : virN d nd (r1 + q) = 10 * M * sufN d' 0 q + 0) (hx1 : x1 = virN d nd r1) (hMx : M ≤ x1) : Lead d' q := by
  have h1 := virN_grow d nd r1 q
  rw [← hx1, f4, Nat.add_zero] at h1
  have h2 : M * 10 ^ q ≤ 10 * M * sufN d' 0 q := Nat.le_trans (Nat.mul_le_mul_right _ hMx) h1
  have hq : 0 < q := by
    rcases Nat.eq_zero_or_pos q with rfl | h
    · simp [sufN] at h2
      omega
    · exact h
  refine lead_of d' q hq f3 ?_
  obtain ⟨p, rfl⟩ : ∃ p, q = p + 1 := ⟨q - 1, by omega⟩
  rw [Nat.pow_succ, ← Nat.mul_assoc, Nat.mul_comm (M * 10 ^ p) 10, Nat.mul_assoc] at h2
  exact Nat.le_of_mul_le_mul_left (Nat.le_of_mul_le_mul_left h2 (by decide)) hM0

set_option maxRecDepth 100000 in
set_option maxHeartbeats 4000000 in
theorem right_walk (a nd k : Nat) (d : Nat → UInt8) (dp : Int) (w : World) (h : Dec w a d nd dp) (hL : Lead d nd) (hnd : nd ≤ 20) (hk1 : 1 ≤ k) (hk2 : k ≤ 33) (hp1 : -1000 ≤ dp) (hp2 : dp ≤ 1000) :
    Calls Tryd.prog 89 #[.pointer (some ⟨a, 0, none⟩), .int .u64 (k : Int)] w (RightEnd w a nd k d dp) := by
  obtain ⟨M, hM⟩ : ∃ M, M = 2 ^ k := ⟨_, rfl⟩
  have hM1 : M ≤ 8589934592 := by rw [hM]; exact Nat.le_trans (Nat.pow_le_pow_right (by decide) hk2) (by decide)
  have hM0 : 0 < M := by rw [hM]; exact Nat.pow_pos (by decide)
  have hpM : (2 : Int) ^ k = (M : Int) := by rw [hM]; simp
  have hc := h.cnt
  have hf := h.frozen
  have HH := Lib.hid (And.intro h (And.intro hL hM))
  have hva := h.lt
  clear h hL hM
  go_enter Tryd.func89, Tryd.ntmps89
  go_upto_block 0 with fail
  go_cut [4, 6] from 12 to 48 (fun v4 v6 wc => ∃ r x : Nat, v4 = .int .i64 r ∧ v6 = .int .u64 x ∧ wc = w ∧ 1 ≤ r ∧ r ≤ 12 ∧ x < 10 * M ∧ M ≤ x ∧ Hid (x = virN d nd r))
  case first =>
    have hMlt : M < 10 ^ 10 := Nat.lt_of_le_of_lt hM1 (by decide)
    have hrb : ∀ r x, 0 < r → x = virN d nd r → x < 10 * M → r ≤ 11 := fun r x h0 hx hlt => by
      have h1 := virN_lead d nd r HH.out.2.1 h0
      rcases Nat.lt_or_ge r 12 with h | h
      · omega
      · have h2 : 10 ^ 11 ≤ 10 ^ (r - 1) := Nat.pow_le_pow_right (by decide) (by omega)
        omega
    have HR := Lib.hid hrb
    clear hrb hMlt
    go_wp2_with fail
    go_loopw [4, 6] (fun v4 v6 wr => ∃ r x : Nat, v4 = .int .i64 r ∧ v6 = .int .u64 x ∧ wr = w ∧ r ≤ nd ∧ x < 10 * M ∧ Hid (x = virN d nd r)) (fun v4 _ _ => nd - (intOf v4).toNat)
    case atStart => exact ⟨0, 0, rfl, rfl, rfl, Nat.zero_le _, by omega, Lib.hid rfl⟩
    case round =>
      obtain ⟨r, x, rfl, rfl, rfl, hr, hx, hX⟩ := hrel
      obtain ⟨y, hy⟩ : ∃ y, y = x / M := ⟨_, rfl⟩
      have hyi : (x : Int) / (M : Int) = (y : Int) := by rw [hy]; exact (Int.natCast_ediv x M).symm
      have HY := Lib.hid hy
      rcases Nat.lt_or_ge x M with hxM | hxM
      · obtain rfl : y = 0 := by rw [hy]; exact Nat.div_eq_of_lt hxM
        clear hy
        rcases Nat.eq_or_lt_of_le hr with rfl | hrn
        · have hx0 : 0 < x := by
            rw [hX.out]
            exact Nat.lt_of_lt_of_le (Nat.pow_pos (by decide)) (virN_lead d r r HH.out.2.1 HH.out.2.1.1)
          have hxq : ((x : Int) == 0) = false := by simp; omega
          have HX0 := Lib.hid hx0
          clear hx0 hr
          go_wp2_with fail
          have hr11 := HR.out r x HH.out.2.1.1 hX.out hx
          obtain ⟨wo, hwo⟩ : ∃ wo, wo = wr := ⟨_, rfl⟩
          have HWO := Lib.hid hwo
          rw [← hwo] at HH hc hf ⊢
          clear hwo
          go_loopw [4, 6] (fun v4 v6 wz => ∃ s x : Nat, v4 = .int .i64 s ∧ v6 = .int .u64 x ∧ wz = wo ∧ r ≤ s ∧ s ≤ 11 ∧ x < 10 * M ∧ Hid (0 < x ∧ x = virN d r s)) (fun _ v6 _ => 10 * M - (intOf v6).toNat)
          case atStart => exact ⟨r, x, rfl, rfl, rfl, Nat.le_refl _, hr11, hx, Lib.hid ⟨HX0.out, hX.out⟩⟩
          case round =>
            obtain ⟨s, x, rfl, rfl, rfl, hs, hs11, hx, hX⟩ := hrel
            obtain ⟨y, hy⟩ : ∃ y, y = x / M := ⟨_, rfl⟩
            have hyi : (x : Int) / (M : Int) = (y : Int) := by rw [hy]; exact (Int.natCast_ediv x M).symm
            rcases Nat.lt_or_ge x M with hxM | hxM
            · obtain rfl : y = 0 := by rw [hy]; exact Nat.div_eq_of_lt hxM
              clear hy
              go_wp2_with fail
              have hv : x * 10 = virN d r (s + 1) := by rw [virN, if_neg (by omega), ← hX.out.2, Nat.add_zero]
              exact ⟨⟨s + 1, x * 10, by go_num, congrArg (Value.int .u64) (by omega), trivial, by omega, HR.out (s + 1) (x * 10) (by omega) hv (by omega), by omega, Lib.hid ⟨by have := hX.out.1; omega, hv⟩⟩, by simp [intOf]; have := hX.out.1; omega⟩
            · have hy0 : 0 < y := by rw [hy]; exact Nat.div_pos hxM hM0
              have hyq : ((y : Int) == 0) = false := by simp; omega
              have HM := Lib.hid (And.intro hy0 hxM)
              clear hy hy0 hxM
              go_wp2_with fail
              go_meet
              exact ⟨s, x, rfl, rfl, HWO.out, by have := HH.out.2.1.1; omega, by omega, hx, HM.out.2, Lib.hid hX.out.2⟩
        · have hdr := HH.out.2.1.2.1 r hrn
          obtain ⟨g, hg⟩ : ∃ g, (d r).toNat = 48 + g := ⟨(d r).toNat - 48, by omega⟩
          have hg9 : g ≤ 9 := by omega
          have hld := HH.out.1.dig r (by omega)
          rw [hg] at hld
          have hv : x * 10 + g = virN d nd (r + 1) := by rw [virN, if_pos hrn, ← hX.out, hg, Nat.add_sub_cancel_left]
          have HV := Lib.hid hv
          clear hg hdr hv hr
          go_wp2_with fail
          exact ⟨⟨r + 1, x * 10 + g, by go_num, congrArg (Value.int .u64) (by omega), trivial, by omega, by omega, Lib.hid HV.out⟩, by simp [intOf]; omega⟩
      · have hy0 : 0 < y := by rw [hy]; exact Nat.div_pos hxM hM0
        have hyq : ((y : Int) == 0) = false := by simp; omega
        have hr1 : 1 ≤ r := by
          rcases Nat.eq_zero_or_pos r with rfl | h
          · have := hX.out
            rw [virN] at this
            omega
          · exact h
        have HM := Lib.hid (And.intro hy0 hxM)
        clear hy hy0 hxM
        go_wp2_with fail
        go_meet
        exact ⟨r, x, rfl, rfl, rfl, hr1, by have := HR.out r x hr1 hX.out hx; omega, hx, HM.out.2, hX⟩
  case rest =>
    obtain ⟨r1, x1, rfl, rfl, rfl, hr1, hr2, hx1, hx2, hX⟩ := hcut
    have hpt := HH.out.1.pt
    have hD1 := HH.out.1.setPt (dp - ((r1 : Int) - 1))
    have HD1 := Lib.hid hD1
    clear hD1
    go_wp2_with fail
    clear hc hf hpt
    have HX1 := Lib.hid (And.intro hX.out hx2)
    obtain ⟨wo, hwo⟩ : ∃ wo, wo = wc := ⟨_, rfl⟩
    have HWO := Lib.hid hwo
    rw [← hwo] at HH HD1 ⊢
    clear hwo hX hva
    go_loopw [4, 5, 6] (fun v4 v5 v6 wr => ∃ r q x : Nat, v4 = .int .i64 r ∧ v5 = .int .i64 q ∧ v6 = .int .u64 x ∧ r ≤ 32 ∧ q < r ∧ (q = 0 ∨ r ≤ nd) ∧ x < 10 * M ∧ Hid (r = r1 + q ∧ RShift wo wr a nd M d (dp - ((r1 : Int) - 1)) r q x)) (fun v4 _ _ _ => nd - (intOf v4).toNat)
    case atStart =>
      refine ⟨r1, 0, x1, rfl, rfl, rfl, by omega, hr1, .inl rfl, hx1, Lib.hid ⟨rfl, d, HD1.out, fun i _ _ => rfl, fun i hi => by omega, ?_, (Keeps.refl (fun b => b = a) wo).set (p := ⟨a, 801, none⟩) (.inl rfl) _⟩⟩
      rw [sufN, Nat.mul_zero, Nat.zero_add]
      exact HX1.out.1.symm
    case round =>
      obtain ⟨r, q, x, rfl, rfl, rfl, hr, hq, hqr, hx, hR⟩ := hrel
      obtain ⟨hrq, d', f1, f2, f3, f4, f5⟩ := hR.out
      have hc := f1.cnt
      have hf := f1.frozen
      have HF := Lib.hid (And.intro f1 (And.intro f2 (And.intro f3 (And.intro f4 f5))))
      by_cases hrn : r < nd
      · have hdr := HH.out.2.1.2.1 r hrn
        obtain ⟨g, hg⟩ : ∃ g, (d r).toNat = 48 + g := ⟨(d r).toNat - 48, by omega⟩
        have hg9 : g ≤ 9 := by omega
        have hld := f1.dig r (by omega)
        rw [f2 r (Nat.le_refl _) hrn, hg] at hld
        have hst := f1.dig q (by omega)
        obtain ⟨y, hy⟩ : ∃ y, y = x / M := ⟨_, rfl⟩
        have hyi : (x : Int) / (M : Int) = (y : Int) := by rw [hy]; exact (Int.natCast_ediv x M).symm
        have hy9 : y < 10 := by rw [hy]; exact Nat.div_lt_of_lt_mul (by rw [Nat.mul_comm]; exact hx)
        have hand := and_mask x k M HH.out.2.2 hM0 hM1 (by omega)
        obtain ⟨m, hm⟩ : ∃ m, m = x % M := ⟨_, rfl⟩
        rw [← hm] at hand
        have hmM : m < M := by rw [hm]; exact Nat.mod_lt _ hM0
        obtain ⟨ch, hch⟩ := dig_of y hy9
        have HG := Lib.hid (And.intro hg (And.intro hy (And.intro hm (And.intro hch hrq))))
        clear hg hy hm hch hrq f1 f2 f3 f4 f5 hdr hqr hR
        go_wp2_with fail
        refine ⟨⟨r + 1, q + 1, m * 10 + g, by go_num, by go_num, congrArg (Value.int .u64) (by omega), by omega, by omega, .inr (by omega), by omega, Lib.hid ⟨by have := HG.out.2.2.2.2; omega, ?_⟩⟩, by simp [intOf]; omega⟩
        have hG := HG.out
        rw [hG.2.2.1]
        refine RShift.step HF.out.1 HF.out.2.1 HF.out.2.2.1 HF.out.2.2.2.1 HF.out.2.2.2.2 hq (by omega) hx ?_ (by rw [hG.2.2.2.1, hG.2.1]) ?_
        · rw [if_pos hrn, hG.1, Nat.add_sub_cancel_left]
        · rw [hG.2.2.2.1]
          omega
      · have hqb : q ≤ 31 := by omega
        have hnr : nd ≤ r := by omega
        have HQ := Lib.hid (And.intro hrq (And.intro hR.out.2 hnr))
        clear hrq f1 f2 f3 f4 f5 hqr HF hR hf hq
        go_wp2_with fail
        obtain ⟨q0, hq0⟩ : ∃ q0, q0 = q := ⟨_, rfl⟩
        have hqb0 : q0 ≤ 31 := by omega
        obtain ⟨wn, hwn⟩ : ∃ wn, wn = wr := ⟨_, rfl⟩
        rw [← hwn] at HQ hc ⊢
        have HQ0 := Lib.hid hq0
        clear hwn hq0
        go_loopw [5, 6] (fun v5 v6 wz => ∃ q x : Nat, v5 = .int .i64 q ∧ v6 = .int .u64 x ∧ q0 ≤ q ∧ q ≤ q0 + k + 1 ∧ x < 10 * M ∧ Hid (nd ≤ r1 + q ∧ RShift wo wz a nd M d (dp - ((r1 : Int) - 1)) (r1 + q) q x ∧ (x = 0 ∨ ∃ j, q = q0 + j ∧ j ≤ k ∧ 2 ^ j ∣ x))) (fun v5 _ _ => q0 + k + 2 - (intOf v5).toNat)
        case atStart =>
          refine ⟨q, x, rfl, rfl, by rw [HQ0.out]; exact Nat.le_refl _, by have := HQ0.out; omega, hx, Lib.hid ⟨by have := HQ.out; omega, ?_, .inr ⟨0, by rw [HQ0.out]; rfl, Nat.zero_le _, by simp⟩⟩⟩
          have := HQ.out.2.1
          rw [HQ.out.1] at this
          exact this
        case round =>
          clear hqb hnr hr hc HQ HQ0 hx hrn
          obtain ⟨q, x, rfl, rfl, hq1, hq2, hx, hR⟩ := hrel
          obtain ⟨hnq, ⟨d', f1, f2, f3, f4, f5⟩, hdv⟩ := hR.out
          have hc := f1.cnt
          have hf := f1.frozen
          have HF := Lib.hid (And.intro f1 (And.intro f2 (And.intro f3 (And.intro f4 (And.intro f5 (And.intro hnq hdv))))))
          clear hR hnq hdv
          rcases Nat.eq_zero_or_pos x with rfl | hx0
          · have hlead : Lead d' q := RShift.done hM0 f3 f4 HX1.out.1 HX1.out.2
            have hT := trim_walk a q d' (dp - ((r1 : Int) - 1)) (wr.setCell ⟨a, 800, none⟩ (.int .i64 (q : Int))) (f1.setCnt q _ rfl) (by omega)
            have HTR := Lib.hid hT
            have HLD := Lib.hid hlead
            clear f1 f2 f3 f4 f5 hlead hT
            go_wp2_with (first | (go_at_call 87; refine HTR.out.mono ?_; intro e1 w4 h4; have H4 := Lib.hid h4; clear h4; obtain rfl := H4.out.1))
            go_returns
            obtain ⟨_, n', hn', h5, h6, h7, h8, h9⟩ := trim_lead H4.out HLD.out
            refine ⟨rfl, d', n', q, r1, hn', by omega, by omega, HF.out.2.2.2.2.2.1, h5, h6, ?_, h8, by rw [← HWO.out]; exact (HF.out.2.2.2.2.1.set (p := ⟨a, 800, none⟩) (.inl rfl) _).trans h9⟩
            have f4 := HF.out.2.2.2.1
            have hj : virN d nd (r1 + q) = sufN d 0 nd * 10 ^ (r1 + q - nd) := by
              have := virN_far d nd (r1 + q - nd)
              rw [show nd + (r1 + q - nd) = r1 + q by have := HF.out.2.2.2.2.2.1; omega] at this
              exact this
            rw [← h7, ← hj, f4, Nat.add_zero, ← HH.out.2.2, Nat.mul_comm]
          · have hst := f1.dig q (by omega)
            obtain ⟨y, hy⟩ : ∃ y, y = x / M := ⟨_, rfl⟩
            have hyi : (x : Int) / (M : Int) = (y : Int) := by rw [hy]; exact (Int.natCast_ediv x M).symm
            have hy9 : y < 10 := by rw [hy]; exact Nat.div_lt_of_lt_mul (by rw [Nat.mul_comm]; exact hx)
            have hand := and_mask x k M HH.out.2.2 hM0 hM1 (by omega)
            obtain ⟨m, hm⟩ : ∃ m, m = x % M := ⟨_, rfl⟩
            rw [← hm] at hand
            have hmM : m < M := by rw [hm]; exact Nat.mod_lt _ hM0
            obtain ⟨ch, hch⟩ := dig_of y hy9
            have hqk : q < q0 + k + 1 ∧ (m * 10 = 0 ∨ ∃ j, q + 1 = q0 + j ∧ j ≤ k ∧ 2 ^ j ∣ m * 10) := by
              rcases HF.out.2.2.2.2.2.2 with h | ⟨j, h1, h2, h3⟩
              · omega
              · refine ⟨by omega, ?_⟩
                rcases Nat.eq_or_lt_of_le h2 with rfl | h4
                · left
                  rw [hm, HH.out.2.2, Nat.mod_eq_zero_of_dvd h3]
                · right
                  refine ⟨j + 1, by omega, h4, ?_⟩
                  have h5 : 2 ^ j ∣ m := by
                    rw [hm, HH.out.2.2]
                    exact (Nat.dvd_mod_iff (Nat.pow_dvd_pow 2 h2)).2 h3
                  obtain ⟨c, hc⟩ := h5
                  exact ⟨c * 5, by rw [hc, Nat.pow_succ, show 10 = 2 * 5 from rfl, Nat.mul_assoc, Nat.mul_assoc, Nat.mul_left_comm c]⟩
            obtain ⟨hq3, hdv2⟩ := hqk
            have HG := Lib.hid (And.intro hy (And.intro hm (And.intro hch hdv2)))
            clear hy hm hch f1 f2 f3 f4 f5 hdv2
            go_wp2_with fail
            refine ⟨⟨q + 1, m * 10, by go_num, congrArg (Value.int .u64) (by omega), by omega, by omega, by omega, Lib.hid ⟨by have := HF.out.2.2.2.2.2.1; omega, ?_, HG.out.2.2.2⟩⟩, by simp [intOf]; omega⟩
            have hG := HG.out
            have hst2 := RShift.step (g := 0) (ch := ch) (v := (y : Int) + 48) HF.out.1 HF.out.2.1 HF.out.2.2.1 HF.out.2.2.2.1 HF.out.2.2.2.2.1 (by omega) (by omega) hx (by rw [if_neg (by have := HF.out.2.2.2.2.2.1; omega)]) (by rw [hG.2.2.1, hG.1]) (by rw [hG.2.2.1]; omega)
            rw [← hG.2.1, Nat.add_zero] at hst2
            exact hst2
#print axioms right_walk
end Go.Proofs.YtnfddblpenninaaDoor
