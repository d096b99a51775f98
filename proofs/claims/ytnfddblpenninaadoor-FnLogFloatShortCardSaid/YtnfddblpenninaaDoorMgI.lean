/- A decimal rounded: to the nearest, ties to even. -/
import Derived.Test.YtnfddblpenninaaDoorFixX
import Derived.BigRegion
namespace Go.Proofs.YtnfddblpenninaaDoor
open Go.RowKit

/-- D is the whole number nearest to num / den, the even one of two. -/
def Half (D num den : Nat) : Prop :=
  (D = 0 ∨ (2 * D - 1) * den < 2 * num ∨ ((2 * D - 1) * den = 2 * num ∧ D % 2 = 0)) ∧ (2 * num < (2 * D + 1) * den ∨ (2 * num = (2 * D + 1) * den ∧ D % 2 = 0))
theorem half_self (D : Nat) : Half D D 1 := ⟨by omega, by omega⟩
theorem half_down (P R T : Nat) (hT : 0 < T) (h : 2 * R < T ∨ (2 * R = T ∧ P % 2 = 0)) : Half P (P * T + R) T := by
  have h1 : (2 * P + 1) * T = 2 * (P * T) + T := by rw [Nat.add_mul, Nat.one_mul, Nat.mul_assoc]
  have h2 : P = 0 ∨ (2 * P - 1) * T + T = 2 * (P * T) := by
    rcases Nat.eq_zero_or_pos P with h | h
    · exact .inl h
    · right
      rw [← Nat.succ_mul, show (2 * P - 1).succ = 2 * P by omega, Nat.mul_assoc]
  constructor
  · rcases h2 with h2 | h2
    · exact .inl h2
    · right; left
      omega
  · rw [h1]
    omega
theorem half_up (P R T : Nat) (hR : R < T) (h : T < 2 * R ∨ (2 * R = T ∧ P % 2 ≠ 0)) : Half (P + 1) (P * T + R) T := by
  have h1 : (2 * (P + 1) + 1) * T = 2 * (P * T) + 3 * T := by rw [show 2 * (P + 1) + 1 = 2 * P + 3 by omega, Nat.add_mul, Nat.mul_assoc]
  have h2 : (2 * (P + 1) - 1) * T = 2 * (P * T) + T := by rw [show 2 * (P + 1) - 1 = 2 * P + 1 by omega, Nat.add_mul, Nat.one_mul, Nat.mul_assoc]
  constructor
  · right
    rw [h2]
    omega
  · rw [h1]
    omega
/-- Whether digits are rounded up at r. -/
def upB (d : Nat → UInt8) (nd r : Nat) : Bool := if (d r).toNat = 53 ∧ r + 1 = nd then decide (((d (r - 1)).toNat - 48) % 2 ≠ 0) else decide (53 ≤ (d r).toNat)
theorem up_fact (d : Nat → UInt8) (nd r : Nat) (hr : r < nd) (hr0 : 0 < r) (hd : ∀ i, i < nd → 48 ≤ (d i).toNat ∧ (d i).toNat ≤ 57) (hl : (d (nd - 1)).toNat ≠ 48) :
    sufN d 0 nd = sufN d 0 r * 10 ^ (nd - r) + sufN d r (nd - r) ∧ sufN d r (nd - r) < 10 ^ (nd - r) ∧
    (upB d nd r = false → 2 * sufN d r (nd - r) < 10 ^ (nd - r) ∨ (2 * sufN d r (nd - r) = 10 ^ (nd - r) ∧ sufN d 0 r % 2 = 0)) ∧
    (upB d nd r = true → 10 ^ (nd - r) < 2 * sufN d r (nd - r) ∨ (2 * sufN d r (nd - r) = 10 ^ (nd - r) ∧ sufN d 0 r % 2 ≠ 0)) := by
  have hs := sufN_split d r (nd - r) 0
  rw [show r + (nd - r) = nd by omega, Nat.zero_add] at hs
  have hlt := sufN_lt d (nd - r) r fun i _ h => (hd i (by omega)).2
  refine ⟨hs, hlt, ?_⟩
  obtain ⟨s, hs1⟩ : ∃ s, nd - r = s + 1 := ⟨nd - r - 1, by omega⟩
  have hpar : sufN d 0 r % 2 = ((d (r - 1)).toNat - 48) % 2 := by
    obtain ⟨q, rfl⟩ : ∃ q, r = q + 1 := ⟨r - 1, by omega⟩
    rw [sufN_snoc, Nat.zero_add, Nat.add_sub_cancel]
    omega
  have hrest := sufN_lt d s (r + 1) fun i _ h => (hd i (by omega)).2
  have hdr := hd r hr
  rw [hs1, sufN, Nat.pow_succ]
  obtain ⟨c, hc⟩ : ∃ c, (d r).toNat = 48 + c := ⟨(d r).toNat - 48, by omega⟩
  obtain ⟨R, hR⟩ : ∃ R, R = sufN d (r + 1) s := ⟨_, rfl⟩
  obtain ⟨T, hT⟩ : ∃ T, T = 10 ^ s := ⟨_, rfl⟩
  have hT0 : 0 < T := by rw [hT]; exact Nat.pow_pos (by decide)
  rw [← hR, ← hT] at hrest
  rw [← hR, ← hT, hc, Nat.add_sub_cancel_left]
  unfold upB
  by_cases hcase : (d r).toNat = 53 ∧ r + 1 = nd
  · rw [if_pos hcase]
    have hc5 : c = 5 := by omega
    have hs0 : s = 0 := by omega
    have hR0 : R = 0 := by rw [hR, hs0, sufN]
    have hT1 : T = 1 := by rw [hT, hs0, Nat.pow_zero]
    subst hc5 hR0 hT1
    rw [← hpar]
    constructor
    · intro h
      right
      have := of_decide_eq_false h
      omega
    · intro h
      right
      have := of_decide_eq_true h
      omega
  · rw [if_neg hcase]
    constructor
    · intro h
      have h5 := of_decide_eq_false h
      left
      have hc4 : c ≤ 4 := by omega
      have : c * T ≤ 4 * T := Nat.mul_le_mul_right _ hc4
      omega
    · intro h
      have h5 := of_decide_eq_true h
      left
      by_cases hc5 : c = 5
      · have hne : r + 1 ≠ nd := fun he => hcase ⟨by omega, he⟩
        have hR0 : 0 < R := by
          rw [hR]
          obtain ⟨q, hq⟩ : ∃ q, s = q + 1 := ⟨s - 1, by omega⟩
          rw [hq]
          refine sufN_pos d q (r + 1) ?_
          rw [show r + 1 + q = nd - 1 by omega]
          have := (hd (nd - 1) (by omega)).1
          omega
        subst hc5
        omega
      · have : 6 * T ≤ c * T := Nat.mul_le_mul_right _ (by omega)
        omega

set_option maxRecDepth 100000 in
set_option maxHeartbeats 4000000 in
theorem should_walk (a nd r : Nat) (d : Nat → UInt8) (dp : Int) (w : World) (h : Dec w a d nd dp) (hnd : nd ≤ 800) (hr : r < nd) (hr0 : 0 < r) (hd : ∀ i, i < nd → 48 ≤ (d i).toNat ∧ (d i).toNat ≤ 57) :
    Calls Tryd.prog 90 #[.pointer (some ⟨a, 0, none⟩), .int .i64 (r : Int)] w fun e w' => e = .returned (.bool (upB d nd r)) ∧ w = w' := by
  have hc := h.cnt
  have ht := h.tr
  have h1 := h.dig r (by omega)
  have h2 := h.dig (r - 1) (by omega)
  have b1 := hd r hr
  have b2 := hd (r - 1) (by omega)
  have hi : (r : Int) - 1 = ((r - 1 : Nat) : Int) := by omega
  obtain ⟨x, hx⟩ : ∃ x, x = (d r).toNat := ⟨_, rfl⟩
  obtain ⟨y, hy⟩ : ∃ y, y = (d (r - 1)).toNat := ⟨_, rfl⟩
  obtain ⟨q, hq⟩ : ∃ q, q = r - 1 := ⟨_, rfl⟩
  have hub : upB d nd r = if x = 53 ∧ r + 1 = nd then decide ((y - 48) % 2 ≠ 0) else decide (53 ≤ x) := by rw [hx, hy]; rfl
  rw [← hx] at h1 b1
  rw [← hy, ← hq] at h2
  rw [← hy] at b2
  rw [← hq] at hi
  have HU := Lib.hid hub
  have HQ := Lib.hid hq
  clear hub hx hy hd h hq
  by_cases hx5 : x = 53
  · subst hx5
    by_cases hrn : r + 1 = nd
    · subst hrn
      have hub := HU.out
      rw [if_pos ⟨rfl, rfl⟩] at hub
      have HU2 := Lib.hid hub
      clear hub HU
      have hm : (((y : Int) - 48) % 2 != 0) = decide ((y - 48) % 2 ≠ 0) := by
        rw [Bool.eq_iff_iff]
        simp
        omega
      obtain ⟨z, hz⟩ : ∃ z, z = decide ((y - 48) % 2 ≠ 0) := ⟨_, rfl⟩
      rw [← hz] at hm HU2
      clear hz
      go_enter Tryd.func90, Tryd.ntmps90
      go_wp2_with fail
      go_returns
      exact ⟨by rw [HU2.out]; rfl, rfl⟩
    · have hub := HU.out
      rw [if_neg (by omega)] at hub
      have HU2 := Lib.hid hub
      have hq : ((r : Int) + 1 == (nd : Int)) = false := by simp; omega
      clear hub HU hrn
      go_enter Tryd.func90, Tryd.ntmps90
      go_wp2_with fail
      go_returns
      exact ⟨by rw [HU2.out]; rfl, rfl⟩
  · have hub := HU.out
    rw [if_neg (by omega)] at hub
    have HU2 := Lib.hid hub
    have hq : ((x : Int) == 53) = false := by simp; omega
    clear hub HU hx5
    go_enter Tryd.func90, Tryd.ntmps90
    go_wp2_with fail
    go_returns
    exact ⟨congrArg (fun b => Ending.returned (.bool b)) (by rw [HU2.out]; exact decide_eq_decide.2 (by omega)), rfl⟩
end Go.Proofs.YtnfddblpenninaaDoor
/- A decimal rounded: the walks. -/
namespace Go.Proofs.YtnfddblpenninaaDoor
open Go.RowKit

/-- Rounded at r: the number of the digits is D. -/
def AtEnd (w : World) (a r : Nat) (dp : Int) (D : Nat) (e : Ending) (w' : World) : Prop :=
  e = .returned (.tuple #[]) ∧ ∃ (d2 : Nat → UInt8) (n2 t : Nat), 1 ≤ n2 ∧ n2 ≤ r + t ∧ t ≤ 1 ∧ (∀ i, i < n2 → 48 ≤ (d2 i).toNat ∧ (d2 i).toNat ≤ 57) ∧ sufN d2 0 n2 * 10 ^ (r + t - n2) = D ∧ Dec w' a d2 n2 (dp + t) ∧ Keeps (fun b => b = a) w w'
set_option maxRecDepth 100000 in
set_option maxHeartbeats 4000000 in
theorem down_walk (a nd r : Nat) (d : Nat → UInt8) (dp : Int) (w : World) (h : Dec w a d nd dp) (hnd : nd ≤ 800) (hr : r < nd) (hr0 : 0 < r) (hL : Lead d nd) :
    Calls Tryd.prog 92 #[.pointer (some ⟨a, 0, none⟩), .int .i64 (r : Int)] w (AtEnd w a r dp (sufN d 0 r)) := by
  have hc := h.cnt
  have hf := h.frozen
  have hT := trim_walk a r d dp (w.setCell ⟨a, 800, none⟩ (.int .i64 (r : Int))) (h.setCnt r _ rfl) (by omega)
  have HT := Lib.hid hT
  have HL := Lib.hid (show Lead d r from ⟨hr0, fun i hi => hL.2.1 i (by omega), hL.2.2⟩)
  clear hT hL h
  go_enter Tryd.func92, Tryd.ntmps92
  go_wp2_with (first | (go_at_call 87; refine HT.out.mono ?_; intro e1 w4 h4; have H4 := Lib.hid h4; clear h4; obtain rfl := H4.out.1))
  go_returns
  obtain ⟨_, n', hn', h5, h6, h7, h8, h9⟩ := trim_lead H4.out HL.out
  refine ⟨rfl, d, n', 0, h5.1, hn', by omega, h5.2.1, ?_, ?_, ((Keeps.refl (fun b => b = a) w).set (p := ⟨a, 800, none⟩) (.inl rfl) _).trans h9⟩
  · rw [Nat.add_zero]
    exact h7.symm
  · rw [show dp + ((0 : Nat) : Int) = dp by omega]
    exact h8
set_option maxRecDepth 100000 in
set_option maxHeartbeats 4000000 in
theorem up_walk (a nd r : Nat) (d : Nat → UInt8) (dp : Int) (w : World) (h : Dec w a d nd dp) (hnd : nd ≤ 800) (hr : r < nd) (hr0 : 0 < r) (hL : Lead d nd) (hp1 : -1000 ≤ dp) (hp2 : dp ≤ 1000) :
    Calls Tryd.prog 91 #[.pointer (some ⟨a, 0, none⟩), .int .i64 (r : Int)] w (AtEnd w a r dp (sufN d 0 r + 1)) := by
  have hc := h.cnt
  have hf := h.frozen
  have hp := h.pt
  have h0 := h.dig 0 (by omega)
  have HH := Lib.hid (And.intro h hL)
  clear h hL
  go_enter Tryd.func91, Tryd.ntmps91
  go_wp2_with fail
  go_loopw [4] (fun v4 wr => ∃ ρ : Nat, v4 = .int .i64 ((ρ : Int) - 1) ∧ ρ ≤ r ∧ wr = w ∧ Hid (sufN d 0 r + 1 = (sufN d 0 ρ + 1) * 10 ^ (r - ρ))) (fun v4 _ => (intOf v4 + 1).toNat)
  case atStart => exact ⟨r, rfl, Nat.le_refl _, rfl, Lib.hid (by rw [Nat.sub_self, Nat.pow_zero, Nat.mul_one])⟩
  case round =>
    obtain ⟨ρ, rfl, hρ, rfl, hM⟩ := hrel
    rcases Nat.eq_zero_or_pos ρ with rfl | hρ0
    · go_wp2_with fail
      go_returns
      have hM2 := hM.out
      rw [sufN, Nat.zero_add, Nat.one_mul, Nat.sub_zero] at hM2
      refine ⟨rfl, putD d 0 49, 1, 1, Nat.le_refl _, by omega, Nat.le_refl _, fun i hi => ?_, ?_, ((HH.out.1.setDig 0 49 _ rfl (by omega)).setCnt 1 _ rfl).setPt _, (((Keeps.refl (fun b => b = a) wr).set (p := ⟨a, 0, none⟩) (.inl rfl) _).set (p := ⟨a, 800, none⟩) (.inl rfl) _).set (p := ⟨a, 801, none⟩) (.inl rfl) _⟩
      · rw [show i = 0 by omega, putD_same]
        decide
      · rw [hM2, sufN, sufN, putD_same, Nat.add_sub_cancel]
        simp
    · obtain ⟨j, rfl⟩ : ∃ j, ρ = j + 1 := ⟨ρ - 1, by omega⟩
      have hdj := HH.out.2.2.1 j (by omega)
      have hld := HH.out.1.dig j (by omega)
      have e1 : ((j + 1 : Nat) : Int) - 1 = (j : Int) := by omega
      rw [e1]
      clear e1
      obtain ⟨x, hx⟩ : ∃ x, x = (d j).toNat := ⟨_, rfl⟩
      rw [← hx] at hld hdj
      have HX := Lib.hid hx
      clear hx
      by_cases hx57 : x < 57
      · go_upto_region 6 with fail
        go_region
        go_wp2_with fail
        go_returns
        obtain ⟨ch, hch⟩ := dig_of (x + 1 - 48) (by omega)
        have hv : (x : Int) + 1 = (ch.toNat : Int) := by rw [hch]; omega
        refine ⟨rfl, putD d j ch, j + 1, 0, by omega, by omega, by omega, fun i hi => ?_, ?_, ?_, (((Keeps.refl (fun b => b = a) wr).set (p := ⟨a, j, none⟩) (.inl rfl) _).set (p := ⟨a, 800, none⟩) (.inl rfl) _).drew⟩
        · by_cases hij : i = j
          · rw [hij, putD_same, hch]
            omega
          · rw [putD_other _ _ hij]
            exact HH.out.2.2.1 i (by omega)
        · rw [Nat.add_zero, hM.out, sufN_snoc, sufN_snoc, Nat.zero_add, putD_same, hch, ← HX.out, sufN_congr (d' := d) j 0 fun i _ h => putD_other _ _ (by omega)]
          congr 1
          omega
        · rw [show dp + ((0 : Nat) : Int) = dp by omega]
          exact ((HH.out.1.setDig j ch _ hv (by omega)).setCnt (j + 1) _ (by omega)).drew
      · obtain rfl : x = 57 := by omega
        clear hx57
        go_wp2_with fail
        refine ⟨⟨j, rfl, by omega, trivial, Lib.hid ?_⟩, by simp [intOf]⟩
        rw [hM.out, sufN_snoc, Nat.zero_add, ← HX.out, show r - j = r - (j + 1) + 1 by omega, Nat.pow_succ, Nat.mul_comm (10 ^ (r - (j + 1))) 10, ← Nat.mul_assoc]
        congr 1
        omega

/-- What 'Round' leaves: the digits' number is D. -/
def RoundEnd (w : World) (a nd r : Nat) (d : Nat → UInt8) (dp : Int) (e : Ending) (w' : World) : Prop :=
  e = .returned (.tuple #[]) ∧ ∃ (d2 : Nat → UInt8) (n2 t D : Nat), ((nd ≤ r ∧ D = sufN d 0 nd * 10 ^ (r - nd)) ∨ (r < nd ∧ Half D (sufN d 0 nd) (10 ^ (nd - r)))) ∧
    1 ≤ n2 ∧ n2 ≤ r + t ∧ n2 ≤ nd ∧ t ≤ 1 ∧ (∀ i, i < n2 → 48 ≤ (d2 i).toNat ∧ (d2 i).toNat ≤ 57) ∧ sufN d2 0 n2 * 10 ^ (r + t - n2) = D ∧ Dec w' a d2 n2 (dp + t) ∧ Keeps (fun b => b = a) w w'
set_option maxRecDepth 100000 in
set_option maxHeartbeats 4000000 in
theorem round_walk (a nd r : Nat) (d : Nat → UInt8) (dp : Int) (w : World) (h : Dec w a d nd dp) (hnd : nd ≤ 800) (hr0 : 0 < r) (hr1 : r ≤ 1000) (hL : Lead d nd) (hl : (d (nd - 1)).toNat ≠ 48) (hp1 : -1000 ≤ dp) (hp2 : dp ≤ 1000) :
    Calls Tryd.prog 66 #[.pointer (some ⟨a, 0, none⟩), .int .i64 (r : Int)] w (RoundEnd w a nd r d dp) := by
  have hc := h.cnt
  by_cases hrn : r < nd
  · have C90 := Lib.hid (should_walk a nd r d dp w h hnd hrn hr0 hL.2.1)
    have C91 := Lib.hid (up_walk a nd r d dp w h hnd hrn hr0 hL hp1 hp2)
    have C92 := Lib.hid (down_walk a nd r d dp w h hnd hrn hr0 hL)
    have hf := up_fact d nd r hrn hr0 hL.2.1 hl
    obtain ⟨z, hz⟩ : ∃ z, z = upB d nd r := ⟨_, rfl⟩
    rw [← hz] at C90 hf
    have HF := Lib.hid hf
    clear hf hz hL hl h
    cases z
    · go_enter Tryd.func66, Tryd.ntmps66
      go_wp2_with (first
        | (go_at_call 90; refine C90.out.mono ?_; rintro e1 w1 ⟨rfl, rfl⟩)
        | (go_at_call 92; refine C92.out.mono ?_; intro e1 w2 h2; have H2 := Lib.hid h2; clear h2; obtain rfl := H2.out.1))
      go_returns
      obtain ⟨_, d2, n2, t, h1, h2, h3, h4, h5, h6, h7⟩ := H2.out
      refine ⟨rfl, d2, n2, t, _, .inr ⟨hrn, ?_⟩, h1, h2, by omega, h3, h4, h5, h6, h7⟩
      rw [HF.out.1]
      exact half_down _ _ _ (Nat.pow_pos (by decide)) (HF.out.2.2.1 (by simp))
    · go_enter Tryd.func66, Tryd.ntmps66
      go_wp2_with (first
        | (go_at_call 90; refine C90.out.mono ?_; rintro e1 w1 ⟨rfl, rfl⟩)
        | (go_at_call 91; refine C91.out.mono ?_; intro e1 w2 h2; have H2 := Lib.hid h2; clear h2; obtain rfl := H2.out.1))
      go_returns
      obtain ⟨_, d2, n2, t, h1, h2, h3, h4, h5, h6, h7⟩ := H2.out
      refine ⟨rfl, d2, n2, t, _, .inr ⟨hrn, ?_⟩, h1, h2, by omega, h3, h4, h5, h6, h7⟩
      rw [HF.out.1]
      exact half_up _ _ _ HF.out.2.1 (HF.out.2.2.2 (by simp))
  · have HH := Lib.hid (And.intro h hL)
    clear h hL hl
    go_enter Tryd.func66, Tryd.ntmps66
    go_wp2_with fail
    go_returns
    refine ⟨rfl, d, nd, 0, _, .inl ⟨by omega, rfl⟩, HH.out.2.1, by omega, Nat.le_refl _, by omega, HH.out.2.2.1, by rw [Nat.add_zero], ?_, Keeps.refl _ _⟩
    rw [show dp + ((0 : Nat) : Int) = dp by omega]
    exact HH.out.1

/-- What 'Shift' leaves: v times a power of two. -/
def ShiftEnd (w : World) (a v : Nat) (k : Int) (e : Ending) (w' : World) : Prop :=
  e = .returned (.tuple #[]) ∧ ∃ (d2 : Nat → UInt8) (n2 : Nat) (dp2 : Int) (A B : Nat), n2 ≤ 120 ∧ -50 ≤ dp2 ∧ dp2 ≤ 50 ∧ Lead d2 n2 ∧ (d2 (n2 - 1)).toNat ≠ 48 ∧ (A : Int) - B = dp2 - n2 ∧
    sufN d2 0 n2 * 10 ^ A * 2 ^ (-k).toNat = v * 2 ^ k.toNat * 10 ^ B ∧ Dec w' a d2 n2 dp2 ∧ Keeps (fun b => b = a) w w'
set_option maxRecDepth 100000 in
set_option maxHeartbeats 4000000 in
theorem shift_walk (a nd j v : Nat) (k : Int) (d : Nat → UInt8) (w : World) (hG : Glob w) (h : Dec w a d nd j) (hL : Lead d nd) (hl : (d (nd - 1)).toNat ≠ 48) (hj : nd ≤ j) (hj2 : j ≤ 17) (hv : sufN d 0 nd * 10 ^ (j - nd) = v) (hk1 : -33 ≤ k) (hk2 : k ≤ 17) :
    Calls Tryd.prog 65 #[.pointer (some ⟨a, 0, none⟩), .int .i64 k] w (ShiftEnd w a v k) := by
  have hc := h.cnt
  have hn0 := hL.1
  rcases Int.lt_trichotomy k 0 with hk | hk | hk
  · obtain ⟨n, hn⟩ : ∃ n : Nat, -k = (n : Int) := ⟨(-k).toNat, by omega⟩
    have C89 := Lib.hid (right_walk a nd n d j w h hL (by omega) (by omega) (by omega) (by omega) (by omega))
    have HK := Lib.hid (And.intro hn (And.intro hk hv))
    have e1 : k = -(n : Int) := by omega
    have hn1 : 1 ≤ n := by omega
    have hn2 : n ≤ 33 := by omega
    subst e1
    clear h hL hl hv hn hk
    go_enter Tryd.func65, Tryd.ntmps65
    go_wp2_with fail
    refine wp_loop_rounds 1 ?_
    rw [rounds_succ]
    go_wp2_with (first | (go_at_call 89; refine C89.out.mono ?_; intro e1 w2 h2; have H2 := Lib.hid h2; clear h2; obtain rfl := H2.out.1))
    go_returns
    obtain ⟨_, d2, n2, q, r1, h1, h2, h3, h4, h5, h6, h7, h8, h9⟩ := H2.out
    refine ⟨rfl, d2, n2, _, q - n2 + 1 + (j - nd), r1 + q - nd, by omega, ?_, ?_, h5, h6, ?_, ?_, h8, h9⟩
    · omega
    · omega
    · omega
    · rw [show (-(-(n : Int))).toNat = n by omega, show (-(n : Int)).toNat = 0 by omega, Nat.pow_zero, Nat.mul_one, ← HK.out.2.2, Nat.mul_right_comm (sufN d 0 nd), ← h7, Nat.pow_add, Nat.pow_add, Nat.pow_one]
      simp only [Nat.mul_assoc, Nat.mul_comm, Nat.mul_left_comm]
  · subst hk
    have HH := Lib.hid (And.intro h (And.intro hL (And.intro hl hv)))
    clear h hL hl hv
    go_enter Tryd.func65, Tryd.ntmps65
    go_wp2_with fail
    go_returns
    refine ⟨rfl, d, nd, j, j - nd, 0, by omega, by omega, by omega, HH.out.2.1, HH.out.2.2.1, by omega, ?_, HH.out.1, Keeps.refl _ _⟩
    simp [HH.out.2.2.2]
  · obtain ⟨n, rfl⟩ := Int.eq_ofNat_of_zero_le (Int.le_of_lt hk)
    have C88 := Lib.hid (left_walk a nd n d j w hG h hL (by omega) (by omega) (by omega) (by omega) (by omega))
    have HK := Lib.hid hv
    clear h hL hl hv hG
    go_enter Tryd.func65, Tryd.ntmps65
    go_wp2_with fail
    refine wp_loop_rounds 1 ?_
    rw [rounds_succ]
    go_wp2_with (first | (go_at_call 88; refine C88.out.mono ?_; intro e1 w2 h2; have H2 := Lib.hid h2; clear h2; obtain rfl := H2.out.1))
    go_returns
    obtain ⟨_, d2, n2, t, h1, h2, h3, h4, h5, h6, h7⟩ := H2.out
    refine ⟨rfl, d2, n2, _, nd + t - n2 + (j - nd), 0, by omega, ?_, ?_, h3, h4, ?_, ?_, h6, h7⟩
    · omega
    · omega
    · omega
    · rw [show (-(n : Int)).toNat = 0 by omega, show ((n : Int)).toNat = n by omega, Nat.pow_zero, Nat.mul_one, Nat.mul_one, Nat.pow_add, ← Nat.mul_assoc, h5, ← HK.out]
      simp only [Nat.mul_comm, Nat.mul_left_comm]
#print axioms shift_walk
end Go.Proofs.YtnfddblpenninaaDoor
