/- A whole number is laid into a decimal. -/
import Derived.Test.YtnfddblpenninaaDoorFixS
import Derived.BigRegion
namespace Go.Proofs.YtnfddblpenninaaDoor
open Go.RowKit

/-- Digits, the first of which is not 0. -/
def Lead (d : Nat → UInt8) (n : Nat) : Prop := 0 < n ∧ (∀ i, i < n → 48 ≤ (d i).toNat ∧ (d i).toNat ≤ 57) ∧ (d 0).toNat ≠ 48
theorem sufN_zeros (d : Nat → UInt8) : ∀ (n a : Nat), (∀ i, a ≤ i → i < a + n → d i = 48) → sufN d a n = 0
  | 0, _, _ => rfl
  | n + 1, a, h => by
    rw [sufN, h a (Nat.le_refl _) (by omega), sufN_zeros d n (a + 1) fun i h1 h2 => h i (by omega) (by omega)]
    simp
theorem sufN_trim (d : Nat → UInt8) (k n : Nat) (hk : k ≤ n) (h : ∀ i, k ≤ i → i < n → d i = 48) : sufN d 0 n = sufN d 0 k * 10 ^ (n - k) := by
  have h1 := sufN_split d k (n - k) 0
  rw [show k + (n - k) = n by omega, Nat.zero_add, sufN_zeros d (n - k) k fun i h1 h2 => h i h1 (by omega)] at h1
  omega
/-- What trim leaves of digits the first of which is not 0. -/
def Trimmed (w : World) (a : Nat) (d : Nat → UInt8) (nd : Nat) (dp : Int) (w' : World) : Prop :=
  ∃ k, k ≤ nd ∧ Lead d k ∧ (d (k - 1)).toNat ≠ 48 ∧ sufN d 0 nd = sufN d 0 k * 10 ^ (nd - k) ∧ Dec w' a d k dp ∧ Keeps (fun b => b = a) w w'
theorem trim_lead {w w' : World} {a nd : Nat} {d : Nat → UInt8} {dp : Int} {e : Ending} (h : TrimEnd w a d nd dp e w') (hL : Lead d nd) : e = .returned (.tuple #[]) ∧ Trimmed w a d nd dp w' := by
  obtain ⟨rfl, k, hk, hz, hl, hD, hK⟩ := h
  have hk0 : 0 < k := by
    rcases Nat.eq_zero_or_pos k with rfl | h
    · exact absurd (congrArg UInt8.toNat (hz 0 (Nat.le_refl _) hL.1)) hL.2.2
    · exact h
  rw [if_neg (by omega)] at hD
  refine ⟨rfl, k, hk, ⟨hk0, fun i hi => hL.2.1 i (by omega), hL.2.2⟩, ?_, sufN_trim d k nd hk hz, hD, hK⟩
  rcases hl with h | h
  · omega
  · exact fun h2 => h (UInt8.toNat_inj.1 (by rw [h2]; rfl))
theorem dg_nat (u j : Nat) : (Lib.dg u j).toNat = 48 + u / 10 ^ j % 10 := by
  unfold Lib.dg
  exact digit_nat _ (by omega)
theorem sufN_dg (d : Nat → UInt8) (v j : Nat) (hv : v < 10 ^ j) (h : ∀ i, i < j → d i = Lib.dg v (j - 1 - i)) : ∀ t, t ≤ j → sufN d 0 t = v / 10 ^ (j - t)
  | 0, _ => by rw [sufN, Nat.sub_zero, Nat.div_eq_of_lt hv]
  | t + 1, ht => by
    rw [sufN_snoc, sufN_dg d v j hv h t (by omega), Nat.zero_add, h t (by omega), dg_nat, show j - 1 - t = j - (t + 1) by omega, show j - t = j - (t + 1) + 1 by omega, Nat.pow_succ, ← Nat.div_div_eq_div_mul]
    omega
theorem Dec.drew {w : World} {a nd : Nat} {d : Nat → UInt8} {dp : Int} (h : Dec w a d nd dp) : Dec w.drew a d nd dp := by
  obtain ⟨cs, hw, r⟩ := h
  exact ⟨cs, hw.drew, r⟩
/-- What 'Assign' leaves. -/
def AssignEnd (w : World) (a v : Nat) (e : Ending) (w' : World) : Prop :=
  e = .returned (.tuple #[]) ∧ ∃ (d : Nat → UInt8) (k j : Nat), k ≤ j ∧ j ≤ 17 ∧ Lead d k ∧ (d (k - 1)).toNat ≠ 48 ∧ sufN d 0 k * 10 ^ (j - k) = v ∧ Dec w' a d k (j : Int) ∧ Keeps (fun b => b = a) w w'
/-- The digits from the right, before round j. -/
def Rev (w0 wr : World) (B v j x : Nat) : Prop := x = v / 10 ^ j ∧ (∀ k, k < j → 0 < v / 10 ^ k) ∧ (∃ cs : Array Value, Whole wr B 100 cs ∧ cs.size = 24 ∧ ∀ i, i < j → cs[i]? = some (byteV (Lib.dg v i))) ∧ Keeps (fun b => b = B) w0 wr
/-- The digits laid, before round t. -/
def Fwd (w0 wr : World) (a B v j t : Nat) (dp : Int) : Prop := ∃ d : Nat → UInt8, Dec wr a d t dp ∧ (∀ i, i < t → d i = Lib.dg v (j - 1 - i)) ∧ (∃ cs : Array Value, Whole wr B 100 cs ∧ ∀ i, i < j → cs[i]? = some (byteV (Lib.dg v i))) ∧ Keeps (fun b => b = a ∨ b = B) w0 wr
set_option maxRecDepth 100000 in
set_option maxHeartbeats 4000000 in
theorem assign_walk (a v nd0 : Nat) (d0 : Nat → UInt8) (dp0 : Int) (w : World) (h : Dec w a d0 nd0 dp0) (hv0 : 0 < v) (hv : v < 100000000000000000) :
    Calls Tryd.prog 64 #[.pointer (some ⟨a, 0, none⟩), .int .u64 (v : Int)] w (AssignEnd w a v) := by
  have HH := Lib.hid h
  have hva := h.lt
  clear h
  go_enter Tryd.func64, Tryd.ntmps64
  go_wp2_with fail
  go_loopw [1, 5] (fun v1 v5 wr => ∃ j x : Nat, v1 = .int .u64 x ∧ v5 = .int .i64 j ∧ j ≤ 17 ∧ x < 100000000000000000 ∧ Hid (Rev (w.alloc (.cells (Array.replicate 24 (.int .u8 0)) 100)) wr w.heap.size v j x)) (fun v1 _ _ => (intOf v1).toNat)
  case atStart =>
    refine ⟨0, v, rfl, rfl, Nat.zero_le _, hv, Lib.hid ⟨by simp, fun k hk => by omega, ⟨_, Whole.new w 100 _, by simp, fun i hi => by omega⟩, Keeps.refl _ _⟩⟩
  case round =>
    obtain ⟨j, x, rfl, rfl, hj, hx, hM⟩ := hrel
    rcases Nat.eq_zero_or_pos x with rfl | hx0
    · have hj0 : 0 < j := by
        rcases Nat.eq_zero_or_pos j with rfl | h
        · have := hM.out.1
          rw [Nat.pow_zero, Nat.div_one] at this
          omega
        · exact h
      have HJ := Lib.hid hj0
      have hB : w.heap.size < wr.heap.size := by have := hM.out.2.2.2.size; simp at this; omega
      have hD : Dec wr a d0 nd0 dp0 := (HH.out.keep ((Keeps.refl (fun b => b = w.heap.size) w).alloc _) (by omega)).keep hM.out.2.2.2 (by omega)
      have hc := hD.cnt
      have hf := hD.frozen
      have HD := Lib.hid hD
      clear hD
      go_wp2_with fail
      obtain ⟨wo, hwo⟩ : ∃ wo, wo = wr := ⟨_, rfl⟩
      rw [← hwo] at HD hM hc hf hB ⊢
      have HA0 := Lib.hid hM.out
      clear hwo
      go_loopw [5] (fun v5 wz => ∃ t : Nat, v5 = .int .i64 ((j : Int) - 1 - t) ∧ t ≤ j ∧ Hid (Fwd wo wz a w.heap.size v j t dp0)) (fun v5 _ => (intOf v5 + 1).toNat)
      case atStart =>
        obtain ⟨_, _, ⟨cs, h3, _, h5⟩, _⟩ := hM.out
        refine ⟨0, by simp, Nat.zero_le _, Lib.hid ⟨d0, HD.out.setCnt 0 0 rfl, fun i hi => by omega, ⟨cs, h3.far (by simp; omega) _, h5⟩, (Keeps.refl (fun b => b = a ∨ b = w.heap.size) _).set (p := ⟨a, 800, none⟩) (.inl (.inl rfl)) _⟩⟩
      case round =>
        obtain ⟨t, rfl, ht, hF⟩ := hrel
        obtain ⟨d, f1, f2, ⟨cs, f3, f4⟩, f5⟩ := hF.out
        have HF := Lib.hid (And.intro f1 (And.intro f2 (And.intro f3 (And.intro f4 f5))))
        have hc := f1.cnt
        have hf := f1.frozen
        have hp := f1.pt
        have hd := f1.dig t (by omega)
        clear f1 f2 f5 hF
        rcases Nat.eq_or_lt_of_le ht with rfl | htj
        · rw [show (t : Int) - 1 - (t : Int) = -1 by omega]
          clear f3 f4 ht
          have hT := trim_walk a t d (t : Int) (wr.setCell ⟨a, 801, none⟩ (.int .i64 (t : Int))) (HF.out.1.setPt _) (by omega)
          have HT := Lib.hid hT
          clear hT
          go_wp2_with (first | (go_at_call 87; refine HT.out.mono ?_; intro e1 w4 h4; have H4 := Lib.hid h4; clear h4; obtain rfl := H4.out.1))
          go_returns
          have hrev := HA0.out
          have hv10 : v < 10 ^ t := by
            have h1 := hrev.1
            rcases Nat.lt_or_ge v (10 ^ t) with h | h
            · exact h
            · have := Nat.div_pos h (Nat.pow_pos (n := t) (by decide : 0 < 10))
              omega
          have hlead : Lead d t := by
            refine ⟨HJ.out, fun i hi => ?_, ?_⟩
            · rw [HF.out.2.1 i hi, dg_nat]
              omega
            · rw [HF.out.2.1 0 HJ.out, dg_nat, Nat.sub_zero]
              have h1 := hrev.2.1 (t - 1) (by have := HJ.out; omega)
              have h2 : v / 10 ^ (t - 1) < 10 := by
                refine Nat.div_lt_of_lt_mul ?_
                rw [← Nat.pow_succ, show (t - 1).succ = t by have := HJ.out; omega]
                exact hv10
              omega
          obtain ⟨_, k, hk, h5, h6, h7, h8, h9⟩ := trim_lead H4.out hlead
          refine ⟨rfl, d, k, t, hk, by omega, h5, h6, ?_, h8, ?_⟩
          · rw [← h7, sufN_dg d v t hv10 HF.out.2.1 t (Nat.le_refl _), Nat.sub_self, Nat.pow_zero, Nat.div_one]
          · have k1 : Keeps (fun b => b = a ∨ b = w.heap.size) w wo := ((Keeps.refl _ w).alloc _).trans (hrev.2.2.2.mono fun k h => .inr h)
            have k2 := (k1.trans HF.out.2.2.2.2).trans (((Keeps.refl (fun b => b = a ∨ b = w.heap.size) wr).set (p := ⟨a, 801, none⟩) (.inl (.inl rfl)) _).trans (h9.mono fun k h => .inl h))
            exact k2.mono_new fun k hk h => by
              rcases h with h | h
              · exact h
              · omega
        · obtain ⟨i, hi⟩ : ∃ i : Nat, (j : Int) - 1 - t = (i : Int) := ⟨j - 1 - t, by omega⟩
          rw [hi]
          have hij : i < j := by omega
          have hb : wr.cell? ⟨w.heap.size, i, none⟩ = some (.int .u8 ((Lib.dg v i).toNat : Int)) := by rw [f3.cell, f4 i hij]; rfl
          obtain ⟨c, hcc⟩ : ∃ c, c = Lib.dg v i := ⟨_, rfl⟩
          rw [← hcc] at hb
          have HI := Lib.hid (And.intro hi hcc)
          clear hi hcc f3 f4 ht
          go_upto_region 12 with fail
          go_region
          go_wp2_with fail
          refine ⟨⟨t + 1, congrArg (Value.int .i64) (by have := HI.out.1; omega), by omega, Lib.hid ⟨putD d t c, ((HF.out.1.setDig t c _ rfl (by omega)).setCnt (t + 1) _ (by omega)).drew, fun k hk => ?_, ⟨cs, (((HF.out.2.2.1.far (by simp; omega) _).far (by simp; omega) _).drew), HF.out.2.2.2.1⟩, ((HF.out.2.2.2.2.set (p := ⟨a, t, none⟩) (.inl (.inl rfl)) _).set (p := ⟨a, 800, none⟩) (.inl (.inl rfl)) _).drew⟩⟩, by simp [intOf]⟩
          by_cases hkt : k = t
          · rw [hkt, putD_same, HI.out.2]
            congr 1
            have := HI.out.1
            omega
          · rw [putD_other d c hkt]
            exact HF.out.2.1 k (by omega)
    · have hj17 : j < 17 := by
        have h1 := hM.out.1
        rcases Nat.lt_or_ge j 17 with h | h
        · exact h
        · obtain rfl : j = 17 := by omega
          rw [Nat.div_eq_of_lt hv] at h1
          omega
      obtain ⟨h1, h2, ⟨cs, h3, h4, h5⟩, h6⟩ := hM.out
      have hc : wr.cell? ⟨w.heap.size, j, none⟩ = some (cs[j]'(by omega)) := by rw [h3.cell]; simp
      have hf := h3.frozen
      have HA := Lib.hid (And.intro h1 (And.intro h2 (And.intro h3 (And.intro h4 (And.intro h5 h6)))))
      clear h1 h2 h3 h5 h6 hM
      go_wp2_with fail
      refine ⟨⟨j + 1, x / 10, by go_num, by go_num, by omega, by omega, Lib.hid ⟨?_, fun k hk => ?_, ⟨_, HA.out.2.2.1.set j _, by simpa using h4, fun i hi => ?_⟩, HA.out.2.2.2.2.2.set (p := ⟨w.heap.size, j, none⟩) (.inl rfl) _⟩⟩, by simp [intOf]; omega⟩
      · rw [HA.out.1, Nat.div_div_eq_div_mul, Nat.pow_succ]
      · by_cases hkj : k = j
        · rw [hkj, ← HA.out.1]; exact hx0
        · exact HA.out.2.1 k (by omega)
      · rw [Array.getElem?_setIfInBounds]
        by_cases hij : j = i
        · subst hij
          rw [if_pos rfl, if_pos (by omega)]
          exact congrArg (fun n => some (Value.int .u8 n)) (by rw [dg_nat, ← HA.out.1]; omega)
        · rw [if_neg hij]
          exact HA.out.2.2.2.2.1 i (by omega)
#print axioms assign_walk
end Go.Proofs.YtnfddblpenninaaDoor
