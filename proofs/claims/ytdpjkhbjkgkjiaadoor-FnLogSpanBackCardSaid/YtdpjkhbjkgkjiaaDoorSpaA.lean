/- How package time writes a duration: the walks of fmtInt, fmtFrac, format, String. -/
import Derived.Test.YtdpjkhbjkgkjiaaDoorMem
import Derived.Test.YtdpjkhbjkgkjiaaDoorKeep
import Derived.Test.YtdpjkhbjkgkjiaaDoorSpaP
import Derived.Test.YtdpjkhbjkgkjiaaDoorLevP
import Derived.Deep.DeepCutAuto
namespace Go.Proofs.YtdpjkhbjkgkjiaaDoor
open Go.RowKit

/-- Block b is an array of 32 bytes whose last ones are the text S. -/
def TailB (w : World) (b : Nat) (S : List UInt8) : Prop :=
  ∃ cs : Array Value, ∃ t, Whole w b t cs ∧ cs.size = 32 ∧ S.length ≤ 32 ∧ ∀ i (h : i < S.length), cs[32 - S.length + i]? = some (.int .u8 (S[i].toNat : Int))

theorem TailB.cell {w : World} {b : Nat} {S : List UInt8} (h : TailB w b S) (i : Nat) (hi : i < 32) : ∃ v, w.cell? ⟨b, i, none⟩ = some v := by
  obtain ⟨cs, t, hw, hs, _, _⟩ := h
  exact ⟨cs[i]'(by omega), by rw [hw.cell, Array.getElem?_eq_getElem (by omega)]⟩
theorem TailB.frozen {w : World} {b : Nat} {S : List UInt8} (h : TailB w b S) (i : Nat) : w.frozen? ⟨b, i, none⟩ = false := by
  obtain ⟨cs, t, hw, _⟩ := h
  exact hw.frozen i
theorem TailB.put {w : World} {b : Nat} {S : List UInt8} (h : TailB w b S) (c : UInt8) (v : Int) (hv : v = (c.toNat : Int)) (i : Nat) (hi : i + 1 + S.length = 32) : TailB (w.setCell ⟨b, i, none⟩ (.int .u8 v)) b (c :: S) := by
  subst hv
  obtain ⟨cs, t, hw, hs, hl, hc⟩ := h
  refine ⟨cs.setIfInBounds i (.int .u8 (c.toNat : Int)), t, hw.set i _, by simpa using hs, by simp; omega, fun j hj => ?_⟩
  have e : 32 - (c :: S).length = i := by simp; omega
  rw [e]
  cases j with
  | zero => simp [Array.getElem?_setIfInBounds, hs]; omega
  | succ j =>
    have hj' : j < S.length := by simpa using hj
    have := hc j hj'
    rw [show 32 - S.length + j = i + (j + 1) by omega] at this
    rw [Array.getElem?_setIfInBounds, if_neg (by omega), this]
    rfl
theorem TailB.keep {w w' : World} {b : Nat} {S : List UInt8} {T : Nat → Prop} (h : TailB w b S) (k : Keeps T w w') (hb : ¬ T b) : TailB w' b S := by
  obtain ⟨cs, t, hw, r⟩ := h
  exact ⟨cs, t, hw.keep k hb, r⟩

set_option maxHeartbeats 400000 in
theorem fmtInt_any (b n cap v : Nat) (S : List UInt8) (hv : v < 10000000000000000000) (hn : n + S.length = 32) (hr : (digs v).length + S.length ≤ 32) (w : World) (hT : TailB w b S) :
    Calls Tryd.prog 32 #[.slice (some ⟨b, 0, none⟩) n cap, .int .u64 v] w fun e w' => e = .returned (.int .i64 (n - (digs v).length : Nat)) ∧ TailB w' b (digs v ++ S) ∧ Keeps (· = b) w w' := by
  have HT := Lib.hid hT
  clear hT
  by_cases h0 : v = 0
  · subst h0
    have hd : digs 0 = [48] := rfl
    rw [hd] at hr ⊢
    obtain ⟨x, hx⟩ := HT.out.cell (n - 1) (by simp at hr; omega)
    have hf := HT.out.frozen (n - 1)
    have hr' : S.length + 1 ≤ 32 := by simp at hr; omega
    have HN := Lib.hid hn
    have hn32 : n ≤ 32 := by omega
    clear hn hr
    have hn1 : 1 ≤ n := by have := HN.out; omega
    have e1 : ((n : Int) - 1).toNat = n - 1 := by omega
    go_enter Tryd.func32, Tryd.ntmps32
    go_wp2
    go_ret
    exact ⟨ret_int (by omega), HT.out.put 48 48 rfl (n - 1) (by have := HN.out; omega), (Keeps.refl (· = b) w).set (p := ⟨b, n - 1, none⟩) (.inl rfl) _⟩
  · have hvp : 0 < v := by omega
    have hd : digs v = digs0 v := if_neg h0
    rw [hd] at hr ⊢
    have hv0 : (((v : Nat) : Int) == 0) = false := by simp; omega
    have HN := Lib.hid hn
    have hn32 : n ≤ 32 := by omega
    have HR := Lib.hid hr
    clear hn hr hd
    go_enter Tryd.func32, Tryd.ntmps32
    go_wp2
    go_loopw [1, 5] (fun x i wr => ∃ (u k : Nat) (T : List UInt8), x = .int .u64 u ∧ i = .int .i64 k ∧ u < 10000000000000000000 ∧ k ≤ n ∧ k + T.length = 32 ∧ digs0 u ++ T = digs0 v ++ S ∧ TailB wr b T ∧ Keeps (· = b) w wr) (fun x _ _ => (intOf x).toNat)
    case atStart => exact ⟨v, n, S, rfl, rfl, hv, Nat.le_refl _, HN.out, rfl, HT.out, Keeps.refl _ _⟩
    case round =>
      obtain ⟨u, k, T, rfl, rfl, hu, hkn, hk, heq, hT, hK⟩ := hrel
      have hlen : (digs0 u).length + T.length ≤ 32 := by
        have := congrArg List.length heq
        simp at this
        have := HR.out
        omega
      have HH := Lib.hid (⟨hk, heq, hT, hK, hlen⟩ : _ ∧ _ ∧ _ ∧ _ ∧ _)
      by_cases hup : 0 < u
      · have hk1 : 1 ≤ k := by rw [digs0_pos hup] at hlen; simp at hlen; omega
        have hk32 : k ≤ 32 := by omega
        obtain ⟨y, hy⟩ := hT.cell (k - 1) (by omega)
        have hf := hT.frozen (k - 1)
        have e1 : ((k : Int) - 1).toNat = k - 1 := by omega
        have b0 : (0 : Int) ≤ (u : Int) % 10 := by omega
        have b1 : (u : Int) % 10 ≤ 9 := by omega
        clear hk heq hT hK hlen
        go_wp2
        go_roundw
        case rel =>
          obtain ⟨hk, heq, hT, hK, hlen⟩ := HH.out
          refine ⟨u / 10, k - 1, dg u :: T, by go_num, congrArg (Value.int .i64) (by omega), by omega, by omega, by simp; omega, ?_, hT.put (dg u) _ ?_ (k - 1) (by omega), hK.set (p := ⟨b, k - 1, none⟩) (.inl rfl) _⟩
          · rw [← heq, digs0_pos hup, List.append_assoc]
            rfl
          · rw [dg_toNat]; omega
        case measure => simp [intOf]; omega
      · obtain rfl : u = 0 := by omega
        clear hk heq hT hK hlen
        go_wp2
        go_ret
        obtain ⟨hk, heq, hT, hK, hlen⟩ := HH.out
        rw [digs0_zero, List.nil_append] at heq
        refine ⟨ret_int ?_, by rw [← heq]; exact hT, hK⟩
        have := congrArg List.length heq
        simp at this
        have := HN.out
        have := HR.out
        omega

theorem fmtInt_z (b n cap : Nat) (v : Int) (S : List UInt8) (hv0 : 0 ≤ v) (hv : v < 10000000000000000000) (hn : n + S.length = 32) (hr : (digs v.toNat).length + S.length ≤ 32) (w : World) (hT : TailB w b S) :
    Calls Tryd.prog 32 #[.slice (some ⟨b, 0, none⟩) n cap, .int .u64 v] w fun e w' => e = .returned (.int .i64 (n - (digs v.toNat).length : Nat)) ∧ TailB w' b (digs v.toNat ++ S) ∧ Keeps (· = b) w w' := by
  obtain ⟨v', rfl⟩ := Int.eq_ofNat_of_zero_le hv0
  rw [Int.toNat_natCast] at hr ⊢
  exact fmtInt_any b n cap v' S (by omega) hn hr w hT

theorem fr_put {v j : Nat} (h : ¬ (fr v j = [] ∧ v / 10 ^ j % 10 = 0)) : fr v (j + 1) = dg (v / 10 ^ j) :: fr v j := by
  conv => lhs; unfold fr
  rw [if_neg h]
theorem fr_skip {v j : Nat} (h : fr v j = [] ∧ v / 10 ^ j % 10 = 0) : fr v (j + 1) = [] := by
  conv => lhs; unfold fr
  rw [if_pos h]

set_option maxHeartbeats 800000 in
theorem fmtFrac_any (b n cap v p : Nat) (S : List UInt8) (hv : v < 10000000000000000000) (hp : p ≤ 9) (hn : n + S.length = 32) (hr : S.length ≤ 20) (w : World) (hT : TailB w b S) :
    Calls Tryd.prog 31 #[.slice (some ⟨b, 0, none⟩) n cap, .int .u64 v, .int .i64 p] w fun e w' =>
      e = .returned (.tuple #[.int .i64 (n - (dot (fr v p)).length : Nat), .int .u64 (v / 10 ^ p : Nat)]) ∧ TailB w' b (dot (fr v p) ++ S) ∧ Keeps (· = b) w w' := by
  have HT := Lib.hid hT
  have HN := Lib.hid hn
  have hn32 : n ≤ 32 := by omega
  have hn12 : 12 ≤ n := by omega
  clear hT hn
  go_enter Tryd.func31, Tryd.ntmps31
  go_wp2
  go_loopw [1, 8, 9, 10] (fun x k q i wr => ∃ (j u m : Nat) (pr : Bool), x = .int .u64 u ∧ k = .int .i64 m ∧ q = .bool pr ∧ i = .int .i64 j ∧ j ≤ p ∧ u < 10000000000000000000 ∧ m ≤ n ∧ u = v / 10 ^ j ∧ pr = !(fr v j).isEmpty ∧ m + (fr v j ++ S).length = 32 ∧ TailB wr b (fr v j ++ S) ∧ Keeps (· = b) w wr) (fun _ _ _ i _ => p - (intOf i).toNat)
  case atStart => exact ⟨0, v, n, false, rfl, rfl, rfl, rfl, Nat.zero_le _, hv, Nat.le_refl _, by simp, rfl, by simpa [fr] using HN.out, by simpa [fr] using HT.out, Keeps.refl _ _⟩
  case round =>
    obtain ⟨j, u, m, pr, rfl, rfl, rfl, rfl, hj, hu, hmn, hue, hpr, hm, hT, hK⟩ := hrel
    have hfl := fr_len v j
    have HH := Lib.hid (⟨hue, hpr, hm, hT, hK⟩ : _ ∧ _ ∧ _ ∧ _ ∧ _)
    have hm1 : 3 ≤ m := by simp at hm; omega
    have hm32 : m ≤ 32 := by omega
    obtain ⟨y, hy⟩ := hT.cell (m - 1) (by omega)
    have hf := hT.frozen (m - 1)
    have e1 : ((m : Int) - 1).toNat = m - 1 := by omega
    have b0 : (0 : Int) ≤ (u : Int) % 10 := by omega
    have b1 : (u : Int) % 10 ≤ 9 := by omega
    clear hue hpr hm hT hK
    by_cases hjp : j < p
    · go_wp2
      · have hp1 : pr = true := by assumption
        have HP1 := Lib.hid hp1
        go_roundw
        case rel =>
          obtain ⟨hue, hpr, hm, hT, hK⟩ := HH.out
          have hne : ¬ (fr v j = [] ∧ v / 10 ^ j % 10 = 0) := by
            intro hc
            rw [hc.1, HP1.out] at hpr
            simp at hpr
          have hfp := fr_put hne
          refine ⟨j + 1, u / 10, m - 1, true, by go_num, congrArg (Value.int .i64) (by omega), rfl, by go_num, by omega, by omega, by omega, ?_, ?_, ?_, ?_, hK.set (p := ⟨b, m - 1, none⟩) (.inl rfl) _⟩
          · rw [hue, Nat.pow_succ, Nat.div_div_eq_div_mul]
          · rw [hfp]; simp
          · rw [hfp]; simp at hm ⊢; omega
          · rw [hfp]
            exact hT.put (dg (v / 10 ^ j)) _ (by rw [dg_toNat, ← hue]; omega) (m - 1) (by omega)
        case measure => simp [intOf]; omega
      · have hp1 : ¬ pr = true := by assumption
        have hd1 : (((u : Nat) : Int) % 10 != 0) = true := by assumption
        have HD1 := Lib.hid hd1
        go_roundw
        case rel =>
          obtain ⟨hue, hpr, hm, hT, hK⟩ := HH.out
          have hne : ¬ (fr v j = [] ∧ v / 10 ^ j % 10 = 0) := by
            intro hc
            have := HD1.out
            rw [← hue] at hc
            simp at this
            omega
          have hfp := fr_put hne
          refine ⟨j + 1, u / 10, m - 1, ((u : Int) % 10 != 0), by go_num, congrArg (Value.int .i64) (by omega), rfl, by go_num, by omega, by omega, by omega, ?_, ?_, ?_, ?_, hK.set (p := ⟨b, m - 1, none⟩) (.inl rfl) _⟩
          · rw [hue, Nat.pow_succ, Nat.div_div_eq_div_mul]
          · rw [hfp]; rw [HD1.out]; simp
          · rw [hfp]; simp at hm ⊢; omega
          · rw [hfp]
            exact hT.put (dg (v / 10 ^ j)) _ (by rw [dg_toNat, ← hue]; omega) (m - 1) (by omega)
        case measure => simp [intOf]; omega
      · have hp1 : ¬ pr = true := by assumption
        have hd1 : (((u : Nat) : Int) % 10 != 0) = false := by assumption
        have HP1 := Lib.hid hp1
        have HD1 := Lib.hid hd1
        go_roundw
        case rel =>
          obtain ⟨hue, hpr, hm, hT, hK⟩ := HH.out
          have hnil : fr v j = [] := by
            have h1 := HP1.out
            rw [hpr] at h1
            simpa using h1
          have hsk : fr v (j + 1) = [] := fr_skip ⟨hnil, by
            have := HD1.out
            rw [← hue]
            simp at this
            omega⟩
          refine ⟨j + 1, u / 10, m, ((u : Int) % 10 != 0), by go_num, rfl, rfl, by go_num, by omega, by omega, hmn, ?_, ?_, ?_, ?_, hK⟩
          · rw [hue, Nat.pow_succ, Nat.div_div_eq_div_mul]
          · rw [hsk, HD1.out]; rfl
          · rw [hsk]; rw [hnil] at hm; exact hm
          · rw [hsk]; rw [hnil] at hT; exact hT
        case measure => simp [intOf]; omega
    · obtain rfl : j = p := by omega
      cases pr
      · go_wp2
        go_ret2
        obtain ⟨hue, hpr, hm, hT, hK⟩ := HH.out
        have hnil : fr v j = [] := by simpa using hpr.symm
        have hdot : dot (fr v j) = [] := by rw [hnil]; rfl
        rw [hdot]
        rw [hnil] at hm hT
        refine ⟨?_, hT, hK⟩
        rw [← hue]
        have : m = n - ([] : List UInt8).length := by have := HN.out; simp at hm ⊢; omega
        rw [← this]
        rfl
      · go_wp2
        go_ret2
        obtain ⟨hue, hpr, hm, hT, hK⟩ := HH.out
        have hne : fr v j ≠ [] := by
          intro hc
          rw [hc] at hpr
          cases hpr
        have hdot : dot (fr v j) = 46 :: fr v j := if_neg hne
        rw [hdot]
        refine ⟨?_, hT.put 46 46 rfl (m - 1) (by omega), hK.set (p := ⟨b, m - 1, none⟩) (.inl rfl) _⟩
        rw [← hue]
        have : ((n - (46 :: fr v j).length : Nat) : Int) = (m : Int) - 1 := by have := HN.out; simp at hm ⊢; omega
        rw [this]
        rfl
end Go.Proofs.YtdpjkhbjkgkjiaaDoor
