/- The reference's small functions: floor, Unsigned, padded. -/
import Derived.Test.YtggebombeflmhaaDoorLayK
import Derived.Test.YtggebombeflmhaaDoorLayU
import Derived.Deep.DeepCutAuto
import Derived.LoopTactic
namespace Go.Proofs.YtggebombeflmhaaDoor
open Go.RowKit

theorem floor_any (a b : Int) (hb : 0 < b) (hb1 : b ≤ 1000000000) (h0 : -4700000000000000000 ≤ a) (h1 : a ≤ 4700000000000000000) (w : World) :
    Calls Tryd.prog 11 #[.int .i64 a, .int .i64 b] w fun e w' => e = .returned (.int .i64 (a / b)) ∧ w = w' := by
  rcases Int.lt_or_le a 0 with hn | hn
  · obtain ⟨q, hq⟩ : ∃ q, q = (-a) / b := ⟨_, rfl⟩
    obtain ⟨r, hr⟩ : ∃ r, r = (-a) % b := ⟨_, rfl⟩
    have e1 : a.tdiv b = -q := by
      rw [show a = -(-a) by omega, Int.neg_tdiv, Int.tdiv_eq_ediv_of_nonneg (by omega), hq]
    have e2 : a.tmod b = -r := by
      rw [show a = -(-a) by omega, Int.neg_tmod, Int.tmod_eq_emod_of_nonneg (by omega), hr]
    have hr0 : 0 ≤ r := by rw [hr]; exact Int.emod_nonneg _ (by omega)
    have hr1 : r < b := by rw [hr]; exact Int.emod_lt_of_pos _ hb
    have hqr : -a = b * q + r := by rw [hq, hr]; exact (Int.mul_ediv_add_emod _ _).symm
    have hq0 : 0 ≤ q := by rw [hq]; exact Int.ediv_nonneg (by omega) (by omega)
    have hq1 : q ≤ 4700000000000000000 := by
      rw [hq]
      exact Int.le_trans (Int.ediv_le_self _ (by omega)) (by omega)
    have key : a / b = if r = 0 then -q else -q - 1 := by
      split
      · have : a = b * (-q) := by rw [Int.mul_neg]; omega
        rw [this, Int.mul_ediv_cancel_left _ (by omega)]
      · have : a = (b - r) + b * (-q - 1) := by rw [Int.mul_sub, Int.mul_neg]; omega
        rw [this, Int.add_mul_ediv_left _ _ (by omega), Int.ediv_eq_zero_of_lt (by omega) (by omega)]
        omega
    have HK := Lib.hid key
    have HQ := Lib.hid (And.intro hq (And.intro hr hqr))
    clear key hq hr hqr
    by_cases hz : r = 0
    · subst hz
      go_enter Tryd.func11, Tryd.ntmps11
      go_wp2
      go_ret
      exact ⟨ret_int (by have := HK.out; simpa using this.symm), rfl⟩
    · have hrp : 0 < r := by omega
      go_enter Tryd.func11, Tryd.ntmps11
      go_wp2
      go_ret
      exact ⟨ret_int (by rw [HK.out, if_neg hz]), rfl⟩
  · have hr0 : 0 ≤ a % b := Int.emod_nonneg _ (by omega)
    go_enter Tryd.func11, Tryd.ntmps11
    go_wp2
    go_ret
    exact ⟨rfl, rfl⟩

theorem bb_one (W : World) (c : UInt8) (v : Int) (hv : v = (c.toNat : Int)) : BB (W.alloc (.cells #[.int .u8 v] 5)) W.heap.size [c] := by
  subst hv
  refine ⟨by simp, fun i hi => ?_, fun i hi => ?_⟩
  · obtain rfl : i = 0 := by simp at hi; omega
    rw [(Whole.new W 5 _).cell]
    rfl
  · exact (Whole.new W 5 _).frozen i
theorem str_of {s : ByteArray} {l : List UInt8} (h : s.data.toList = l) : s = ⟨l.toArray⟩ := by
  subst h
  rfl

set_option maxRecDepth 100000 in
set_option maxHeartbeats 1000000 in
theorem unsigned_any (n : Int) (h0 : 0 ≤ n) (h1 : n < 9223372036854775808) (w0 w : World) (hB : Below w0.heap.size w0 w) :
    Calls Tryd.prog 13 #[.int .u64 n] w fun e w' => e = .returned (.string ⟨(digs n.toNat).toArray⟩) ∧ Below w0.heap.size w0 w' := by
  have HB := Lib.hid hB
  obtain ⟨t, ht⟩ : ∃ t : ByteArray, t = ⟨(digs n.toNat).toArray⟩ := ⟨_, rfl⟩
  have HT := Lib.hid ht
  rw [← ht]
  clear hB ht
  go_enter Tryd.func13, Tryd.ntmps13
  go_wp2_with fail
  go_loopw [0, 3] (fun x m wr => ∃ (u : Int) (s : ByteArray), x = .int .u64 u ∧ m = .string s ∧ 0 ≤ u ∧ u < 9223372036854775808 ∧ Hid (digs n.toNat = digs u.toNat ++ s.data.toList ∧ Below w0.heap.size w0 wr)) (fun x _ _ => (intOf x).toNat)
  case atStart => exact ⟨n, ⟨#[]⟩, rfl, rfl, h0, h1, Lib.hid ⟨by simp, HB.out⟩⟩
  case round =>
    obtain ⟨u, s, rfl, rfl, hu0, hu1, HR⟩ := hrel
    obtain ⟨ds, hds⟩ : ∃ ds : ByteArray, ds = ⟨#[dg u.toNat]⟩ := ⟨_, rfl⟩
    have HD := Lib.hid hds
    have hcv : (convert 43 9 (.slice (some ⟨wr.heap.size, 0, none⟩) 1 1)).run Tryd.prog (wr.alloc (.cells #[.int .u8 (48 + u % 10)] 5)) = .ok (.string ds) (wr.alloc (.cells #[.int .u8 (48 + u % 10)] 5)) := by
      rw [hds]
      exact conv_string (bb_one wr (dg u.toNat) _ (by rw [dg_toNat]; omega)) 1 1 rfl
    have hd1 : ds.size ≤ 1 := by rw [hds]; exact Nat.le_refl 1
    have hs19 : s.size ≤ 19 := by
      have h1 := congrArg List.length HR.out.1
      have h2 := digs_len (k := 19) (v := n.toNat) (by decide) (by omega)
      have h3 : s.size = s.data.toList.length := by simp
      rw [List.length_append] at h1
      omega
    clear hds
    by_cases hu : u < 10
    · have hz : (u / 10 == 0) = true := beq_iff_eq.2 (by omega)
      go_wp2_with fail
      go_ret
      refine ⟨?_, HR.out.2.alloc HR.out.2.size _⟩
      have : t = ds ++ s := by
        rw [HT.out, HR.out.1, digs_one (by omega : u.toNat < 10), HD.out]
        exact (str_of (by simp)).symm
      rw [this]
      rfl
    · have hz : (u / 10 == 0) = false := beq_eq_false_iff_ne.2 (by omega)
      go_wp2_with fail
      go_roundw
      case rel =>
        refine ⟨u / 10, ds ++ s, rfl, rfl, by omega, by omega, Lib.hid ⟨?_, HR.out.2.alloc HR.out.2.size _⟩⟩
        rw [HR.out.1, digs_ten (by omega : 10 ≤ u.toNat), show (u / 10).toNat = u.toNat / 10 by omega, HD.out]
        simp
      case measure => simp [intOf]; omega

def szOf : Value → Nat
  | .string s => s.size
  | _ => 0
theorem size_add (a b : ByteArray) : (a ++ b).size = a.size + b.size := by simp
/-- What padded comes to. -/
def pad (d n : Nat) : List UInt8 := zeros (d - (digs n).length) ++ digs n
set_option maxRecDepth 100000 in
set_option maxHeartbeats 1000000 in
theorem padded_any (n : Int) (d : Nat) (hd : d ≤ 9) (h0 : 0 ≤ n) (h1 : n < 9223372036854775808) (w0 w : World) (hB : Below w0.heap.size w0 w) :
    Calls Tryd.prog 12 #[.int .i64 n, .int .i64 (d : Int)] w fun e w' => e = .returned (.string ⟨(pad d n.toNat).toArray⟩) ∧ Below w0.heap.size w0 w' := by
  have HB := Lib.hid hB
  obtain ⟨t, ht⟩ : ∃ t : ByteArray, t = ⟨(pad d n.toNat).toArray⟩ := ⟨_, rfl⟩
  have HT := Lib.hid ht
  obtain ⟨x, hx⟩ : ∃ x : ByteArray, x = ⟨(digs n.toNat).toArray⟩ := ⟨_, rfl⟩
  have HX := Lib.hid hx
  obtain ⟨z, hz⟩ : ∃ z : Nat, z = d - (digs n.toNat).length := ⟨_, rfl⟩
  have HZ := Lib.hid hz
  have hz9 : z ≤ 9 := by omega
  have hx19 : x.size ≤ 19 := by
    have h2 := digs_len (k := 19) (v := n.toNat) (by decide) (by omega)
    rw [hx]
    show (digs n.toNat).toArray.size ≤ 19
    simpa using h2
  rw [← ht]
  clear hB ht hz hx
  go_enter Tryd.func12, Tryd.ntmps12
  go_wp2_with (first
    | (go_at_call 13; refine (unsigned_any n h0 h1 w0 _ HB.out).mono ?_; rw [← HX.out]; rintro e w1 ⟨rfl, hb1⟩; have HB1 := Lib.hid hb1; clear hb1))
  go_loop [5] (fun m => ∃ (k : Nat) (s : ByteArray), m = .string s ∧ k ≤ z ∧ s.size ≤ 28 ∧ Hid (s.data.toList = zeros k ++ digs n.toNat)) (fun m => 28 - szOf m)
  case atStart => exact ⟨0, x, rfl, Nat.zero_le _, by omega, Lib.hid (by rw [HX.out]; rfl)⟩
  case round =>
    obtain ⟨k, s, rfl, hk, hs28, HS⟩ := hrel
    have hs : s.size = k + (digs n.toNat).length := by
      have h3 : s.size = s.data.toList.length := by simp
      rw [h3, HS.out]
      simp [zeros]
    by_cases hkz : k < z
    · have hlt : s.size < d := by have := HZ.out; omega
      have hs27 : s.size ≤ 20 := by omega
      clear hs
      go_wp2_with fail
      go_round
      case rel =>
        refine ⟨k + 1, _, rfl, by omega, ?_, Lib.hid ?_⟩
        · rw [size_add]
          show 1 + s.size ≤ 28
          omega
        · have h := HS.out
          simp only [ByteArray.data_append, Array.toList_append, h]
          rfl
      case measure =>
        show 28 - (_ ++ s : ByteArray).size < 28 - s.size
        rw [size_add]
        show 28 - (1 + s.size) < 28 - s.size
        omega
    · have hlt : d ≤ s.size := by have := HZ.out; omega
      have hkk : k = z := by omega
      have HK := Lib.hid hkk
      clear hs hkk
      go_wp2_with fail
      go_ret
      refine ⟨?_, HB1.out⟩
      have : t = s := by
        rw [HT.out, pad, ← HZ.out, ← HK.out]
        exact (str_of HS.out).symm
      rw [this]
      rfl
end Go.Proofs.YtggebombeflmhaaDoor
