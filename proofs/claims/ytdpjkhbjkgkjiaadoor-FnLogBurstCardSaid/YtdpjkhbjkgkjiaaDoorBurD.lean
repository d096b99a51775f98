/- The walk of FnLogBurst. -/
import Derived.Test.YtdpjkhbjkgkjiaaDoorBurC
import Derived.Test.YtdpjkhbjkgkjiaaDoorLevC
namespace Go.Proofs.YtdpjkhbjkgkjiaaDoor
open Go.RowKit

set_option maxHeartbeats 1000000 in
theorem burst_out (b p nx : Int) (A : Option Addr) (n c : Nat) (hb : 0 ≤ b) (hx : 0 ≤ nx) (hbad : b < 1 ∨ 20 < b ∨ p < 1 ∨ 1099511627776 < p ∨ 20 < nx ∨ 60 < n) (w : World) :
    Calls Tryd.prog 4 #[.int .u32 b, .int .i64 p, .int .u32 nx, .slice A n c] w fun e w' => e = .returned (.bool true) ∧ Below w.heap.size w w' := by
  go_enter Tryd.func4, Tryd.ntmps4
  go_wp2
  all_goals first
    | (go_ret; exact ⟨rfl, Below.refl _ _⟩)
    | (exfalso; omega)

set_option maxHeartbeats 1000000 in
theorem burst_wild (b p nx : Int) (tb o n c : Nat) (ts : List Int) (hb0 : 1 ≤ b) (hb1 : b ≤ 20) (hp0 : 1 ≤ p) (hp1 : p ≤ 1099511627776) (hx0 : 0 ≤ nx) (hx1 : nx ≤ 20) (hn : n ≤ 60)
    (j : Nat) (hj : j < n) (hbad : ts.getD j 0 < 1 ∨ 1125899906842624 < ts.getD j 0) (w : World) (hT : Times w w.heap.size tb o n ts) :
    Calls Tryd.prog 4 #[.int .u32 b, .int .i64 p, .int .u32 nx, .slice (some ⟨tb, o, none⟩) n c] w fun e w' => e = .returned (.bool true) ∧ Below w.heap.size w w' := by
  have HT := Lib.hid hT
  have HBAD := Lib.hid hbad
  clear hT hbad
  go_enter Tryd.func4, Tryd.ntmps4
  go_wp2
  go_loop [43] (fun i => ∃ k : Nat, k ≤ j ∧ i = .int .i64 k) (fun i => n - (intOf i).toNat)
  case atStart => exact ⟨0, Nat.zero_le _, rfl⟩
  case round =>
    obtain ⟨k, hk, rfl⟩ := hrel
    have hlt : k < n := by omega
    have hcell := HT.out.2 k hlt
    obtain ⟨t, et⟩ : ∃ t, t = ts.getD k 0 := ⟨_, rfl⟩
    rw [← et] at hcell
    have HTE := Lib.hid et
    clear et
    by_cases hlow : t < 1
    · go_wp2
      go_ret
      exact ⟨rfl, Below.refl _ _⟩
    · by_cases hhigh : 1125899906842624 < t
      · go_wp2
        go_ret
        exact ⟨rfl, Below.refl _ _⟩
      · have hkj : k < j := by
          rcases Nat.lt_or_ge k j with h | h
          · exact h
          · obtain rfl : k = j := by omega
            have h1 := HBAD.out
            rw [← HTE.out] at h1
            omega
        go_wp2
        go_round
        case rel => exact ⟨k + 1, by omega, by go_num⟩
        case measure => simp [intOf]; omega

/-- An owned row of bools, as a slice whose cells are known. -/
theorem row_bools {w : World} {B n : Nat} {v : Value} {l : List Bool} (h : w.ownsRow B 4 1 v n (l.map Value.bool)) (hn : 0 < n) :
    ∃ g c, v = .slice (some ⟨g, 0, none⟩) n c ∧ B ≤ g ∧ g < w.heap.size ∧ ∀ i, i < n → w.cell? ⟨g, i, none⟩ = some (.bool (l.getD i false)) := by
  have h' := h.2
  rcases h' with ⟨_, h0⟩ | ⟨g, c, cur, rfl, hg, hh, _⟩
  · omega
  refine ⟨g, c, rfl, hg, (Array.getElem?_eq_some_iff.1 hh).1, fun i hi => ?_⟩
  have hl : (l.map Value.bool).length = n * 1 := h.1
  rw [List.length_map, Nat.mul_one] at hl
  have := h.cellAt i (by omega)
  rw [this]
  rw [List.getElem?_map, List.getD_eq_getElem?_getD, List.getElem?_eq_getElem (by omega)]
  rfl

set_option maxHeartbeats 2000000 in
theorem burst_walk (b p nx : Int) (tb o n c : Nat) (ts : List Int) (hb0 : 1 ≤ b) (hb1 : b ≤ 20) (hp0 : 1 ≤ p) (hp1 : p ≤ 1099511627776) (hx0 : 0 ≤ nx) (hx1 : nx ≤ 20) (hn0 : 0 < n) (hn : n ≤ 60)
    (ht : ∀ i, 0 ≤ ts.getD i 0 ∧ ts.getD i 0 ≤ 1125899906842624) (ht1 : ∀ i, i < n → 1 ≤ ts.getD i 0) (w : World) (hT : Times w w.heap.size tb o n ts) (hE : Errs w) :
    Calls Tryd.prog 4 #[.int .u32 b, .int .i64 p, .int .u32 nx, .slice (some ⟨tb, o, none⟩) n c] w fun e w' => e = .returned (.bool true) ∧ Below w.heap.size w w' := by
  have HT := Lib.hid hT
  have HTS := Lib.hid ht
  have HT1 := Lib.hid ht1
  clear hT ht ht1
  go_enter Tryd.func4, Tryd.ntmps4
  go_wp2
  go_loop [43] (fun i => ∃ k : Nat, k ≤ n ∧ i = .int .i64 k) (fun i => n - (intOf i).toNat)
  case atStart => exact ⟨0, Nat.zero_le _, rfl⟩
  case round =>
    obtain ⟨k, hk, rfl⟩ := hrel
    by_cases hlt : k < n
    · have hcell := HT.out.2 k hlt
      have h1 := HT1.out k hlt
      have h2 := (HTS.out k).2
      obtain ⟨t, et⟩ : ∃ t, t = ts.getD k 0 := ⟨_, rfl⟩
      rw [← et] at hcell h1 h2
      clear et
      go_wp2
      go_round
      case rel => exact ⟨k + 1, by omega, by go_num⟩
      case measure => simp [intOf]; omega
    · go_wp2_with fail
      refine (spec_walk b p nx tb o n c ts hb0 hb1 hp0 hp1 hx0 hx1 hn HTS.out w HT.out).mono ?_
      rintro e w1 (⟨hok, v, rfl, hO1, hB1⟩ | ⟨hok, rfl, hB1⟩)
      · have HOK := Lib.hid hok
        have HO1 := Lib.hid hO1
        have HB1 := Lib.hid hB1
        clear hok hO1 hB1
        go_wp2_with fail
        have himp : Calls Tryd.prog 11 #[.int .u32 b, .int .i64 p, .int .u32 nx, .slice (some ⟨tb, o, none⟩) n c] w1 fun e w' => ImplEnd b p nx ts n w1 e w' := by
          have hT1 : Times w1 w1.heap.size tb o n ts := by
            obtain ⟨h1, h2⟩ := HT.out.below HB1.out
            exact ⟨Nat.lt_of_lt_of_le h1 HB1.out.size, h2⟩
          rcases Int.lt_or_le 0 nx with hx | hx
          · exact impl_more b p nx tb o n c ts hb0 hp0 hp1 hx hx1 hn HTS.out HT1.out HOK.out w1 hT1
          · obtain rfl : nx = 0 := by omega
            exact impl_zero b p tb o n c ts hb0 hp0 hp1 hn HTS.out HT1.out HOK.out w1 hT1
        refine himp.mono ?_
        clear himp
        rintro e w2 ⟨v2, rfl, hO2, hB2⟩
        obtain ⟨g1, k1, rfl, hg1, hl1, hc1⟩ := row_bools HO1.out hn0
        obtain ⟨g2, k2, rfl, hg2, hl2, hc2⟩ := row_bools hO2 hn0
        have HC1 := Lib.hid (fun i (hi : i < n) => (hB2.cell (p := ⟨g1, i, none⟩) hl1).trans (hc1 i hi))
        have HC2 := Lib.hid hc2
        have HB2 := Lib.hid (HB1.out.trans (hB2.mono HB1.out.size))
        clear hO2 hB2 hg1 hl1 hc1 hg2 hl2 hc2
        go_wp2_with fail
        go_loopw [76] (fun i wr => ∃ k : Nat, k ≤ n ∧ i = .int .i64 k ∧ ∃ q, wr = w2.drewN q) (fun i _ => n - (intOf i).toNat)
        case atStart => exact ⟨0, Nat.zero_le _, rfl, 0, rfl⟩
        case round =>
          obtain ⟨k3, hk3, rfl, q, rfl⟩ := hrel
          by_cases hlt3 : k3 < n
          · have d1 := HC1.out k3 hlt3
            have d2 := HC2.out k3 hlt3
            obtain ⟨x, hx⟩ : ∃ x, x = (runS b p nx ts n).outs.getD k3 false := ⟨_, rfl⟩
            rw [← hx] at d1 d2
            clear hx
            have i0 : (0 : Int) ≤ (k3 : Int) := by omega
            have i1 : (k3 : Int) < (n : Int) := by omega
            go_wp2
            go_quiet (fail)
            go_wp2
            go_roundw
            case rel => exact ⟨k3 + 1, by omega, by go_num, _, rfl⟩
            case measure => simp [intOf]; omega
          · go_wp2_with fail
            refine (awake_any w _ (below_drewN HB2.out q) hE).mono ?_
            rintro e w3 ⟨rfl, hb3⟩
            go_wp2
            go_ret
            exact ⟨rfl, hb3⟩
      · have HB1 := Lib.hid hB1
        clear hok hB1
        go_wp2
        go_ret
        exact ⟨rfl, HB1.out⟩

set_option maxHeartbeats 2000000 in
theorem burst_none (b p nx : Int) (A : Option Addr) (c : Nat) (hb0 : 1 ≤ b) (hb1 : b ≤ 20) (hp0 : 1 ≤ p) (hp1 : p ≤ 1099511627776) (hx0 : 0 ≤ nx) (hx1 : nx ≤ 20) (w : World) (hE : Errs w) :
    Calls Tryd.prog 4 #[.int .u32 b, .int .i64 p, .int .u32 nx, .slice A 0 c] w fun e w' => e = .returned (.bool true) ∧ Below w.heap.size w w' := by
  go_enter Tryd.func4, Tryd.ntmps4
  go_wp2
  refine wp_loop_rounds 1 ?_
  rw [rounds_succ]
  go_wp2_with fail
  refine (spec_none b p nx A c w).mono ?_
  rintro e w1 ⟨rfl, hB1⟩
  go_wp2_with fail
  refine (impl_none b p nx A c w1).mono ?_
  rintro e w2 ⟨rfl, hB2⟩
  have HB2 := Lib.hid (hB1.trans (hB2.mono hB1.size))
  go_wp2_with fail
  refine wp_loop_rounds 1 ?_
  rw [rounds_succ]
  go_wp2_with fail
  refine (awake_any w _ HB2.out hE).mono ?_
  rintro e w3 ⟨rfl, hb3⟩
  go_wp2
  go_ret
  exact ⟨rfl, hb3⟩
end Go.Proofs.YtdpjkhbjkgkjiaaDoor
