/- How package time appends a number of any width. -/
import Derived.Test.YtggebombeflmhaaDoorLayB
namespace Go.Proofs.YtggebombeflmhaaDoor
open Go.RowKit

theorem digs_ten {v : Nat} (h : 10 ≤ v) : digs v = digs (v / 10) ++ [dg v] := by
  unfold digs
  rw [if_neg (by omega), if_neg (by omega), digs0_pos (by omega)]
theorem digs_one {v : Nat} (h : v < 10) : digs v = [dg v] := by
  unfold digs
  split
  · subst_vars; rfl
  · rw [digs0_pos (by omega), show v / 10 = 0 by omega, digs0_zero]
    rfl
theorem digs0_length {v : Nat} (h : 0 < v) : (digs0 v).length = (digs v).length := by unfold digs; rw [if_neg (by omega)]

/-- Block b holds, ahead of place n, l and then p more places (p is at most 64 less n), and behind them the text T. -/
def Hole (w : World) (b : Nat) (l : List UInt8) (p : Nat) (T : List UInt8) : Prop :=
  ∃ cs : Array Value, ∃ t, Whole w b t cs ∧ cs.size = 64 ∧ l.length + p + T.length ≤ 64 ∧ (∀ i (h : i < l.length), cs[i]? = some (byteV l[i])) ∧ ∀ i (h : i < T.length), cs[l.length + p + i]? = some (byteV T[i])
theorem Hole.of_buf {w : World} {b : Nat} {l : List UInt8} (h : Buf w b l) (p : Nat) (hp : l.length + p ≤ 64) : Hole w b l p [] := by
  obtain ⟨cs, t, hw, hs, hl, hc⟩ := h
  exact ⟨cs, t, hw, hs, by simpa using hp, hc, fun i hi => absurd hi (by simp)⟩
theorem Hole.to_buf {w : World} {b : Nat} {l T : List UInt8} (h : Hole w b l 0 T) : Buf w b (l ++ T) := by
  obtain ⟨cs, t, hw, hs, hl, hc, hT⟩ := h
  refine ⟨cs, t, hw, hs, by simp; omega, fun i hi => ?_⟩
  by_cases hil : i < l.length
  · rw [hc i hil, List.getElem_append_left hil]
  · have := hT (i - l.length) (by simp at hi; omega)
    rw [show l.length + 0 + (i - l.length) = i by omega] at this
    rw [this, List.getElem_append_right (by omega)]
theorem Hole.put {w : World} {b : Nat} {l T : List UInt8} {p : Nat} (h : Hole w b l (p + 1) T) (c : UInt8) (v : Int) (hv : v = (c.toNat : Int)) (i : Nat) (hi : i = l.length + p) : Hole (w.setCell ⟨b, i, none⟩ (.int .u8 v)) b l p (c :: T) := by
  subst hi hv
  obtain ⟨cs, t, hw, hs, hl, hc, hT⟩ := h
  refine ⟨cs.setIfInBounds (l.length + p) (.int .u8 (c.toNat : Int)), t, hw.set _ _, by simpa using hs, by simp; omega, fun i hi => ?_, fun i hi => ?_⟩
  · rw [Array.getElem?_setIfInBounds, if_neg (by omega), hc i hi]
  · cases i with
    | zero => rw [Array.getElem?_setIfInBounds, if_pos (by omega), if_pos (by omega)]; rfl
    | succ i =>
      have := hT i (by simpa using hi)
      rw [show l.length + (p + 1) + i = l.length + p + (i + 1) by omega] at this
      rw [Array.getElem?_setIfInBounds, if_neg (by omega), this]
      rfl
theorem Hole.cell {w : World} {b : Nat} {l T : List UInt8} {p : Nat} (h : Hole w b l p T) (i : Nat) (hi : i < 64) : ∃ v, w.cell? ⟨b, i, none⟩ = some v := by
  obtain ⟨cs, t, hw, hs, _⟩ := h
  exact ⟨cs[i]'(by omega), by rw [hw.cell, Array.getElem?_eq_getElem (by omega)]⟩
theorem Hole.frozen {w : World} {b : Nat} {l T : List UInt8} {p : Nat} (h : Hole w b l p T) (i : Nat) : w.frozen? ⟨b, i, none⟩ = false := by
  obtain ⟨cs, t, hw, _⟩ := h
  exact hw.frozen i

/-- The zeros ahead of a number. -/
def zeros (k : Nat) : List UInt8 := List.replicate k 48

set_option maxRecDepth 100000 in
set_option maxHeartbeats 4000000 in
theorem int_wide (b n : Nat) (x : Int) (wd : Nat) (l : List UInt8) (h0 : 0 ≤ x) (h1 : x < 1000000000) (hwd : wd = 0 ∨ wd = 9) (hn : l.length = n) (h64 : n + 9 ≤ 64) (w : World) (hB : Buf w b l) :
    Calls Tryd.prog 30 #[.slice (some ⟨b, 0, none⟩) n 64, .int .i64 x, .int .i64 wd] w fun e w' => Put b (l ++ (zeros (wd - (digs x.toNat).length) ++ digs x.toNat)) w e w' := by
  have HB := Lib.hid hB
  have HN := Lib.hid hn
  obtain ⟨N, hN⟩ : ∃ N, N = (digs x.toNat).length := ⟨_, rfl⟩
  have hN1 : 1 ≤ N := by rw [hN]; exact digs_pos _
  have hN9 : N ≤ 9 := by rw [hN]; exact digs_len (k := 9) (by decide) (by omega)
  have HNN := Lib.hid hN
  rw [← hN]
  clear hB hn hN
  go_enter Tryd.func30, Tryd.ntmps30
  obtain ⟨c0, hc0⟩ : ∃ c0 : Nat, c0 = if x = 0 then 1 else 0 := ⟨_, rfl⟩
  have HC0 := Lib.hid hc0
  have hc9 : c0 ≤ 1 := by rw [hc0]; split <;> decide
  clear hc0
  go_upto_if 71 with fail
  go_cut [9] (fun c wc => c = .int .i64 c0 ∧ w = wc)
  case first =>
    by_cases hx : x = 0
    · subst hx
      go_wp2_with fail
      go_meet
      exact ⟨by rw [HC0.out]; rfl, rfl⟩
    · have hx1 : 0 < x := by omega
      go_wp2_with fail
      go_meet
      exact ⟨by rw [HC0.out, if_neg hx]; rfl, rfl⟩
  case rest =>
  obtain ⟨rfl, rfl⟩ := hcut
  go_wp2_with fail
  go_loop [9, 10] (fun c y => ∃ (k : Nat) (u : Int), c = .int .i64 k ∧ y = .int .u64 u ∧ 0 ≤ u ∧ u < 1000000000 ∧ k ≤ 9 ∧ Hid (k + (digs0 u.toNat).length = N)) (fun _ y => (intOf y).toNat)
  case atStart =>
    by_cases hx : x = 0
    · subst hx
      exact ⟨c0, 0, rfl, rfl, by decide, by decide, by omega, Lib.hid (by rw [HNN.out, HC0.out]; simp [digs0_zero, show digs 0 = [48] from rfl])⟩
    · exact ⟨c0, x, rfl, rfl, h0, h1, by omega, Lib.hid (by rw [HNN.out, HC0.out, if_neg hx, digs0_length (by omega)]; omega)⟩
  case round =>
    obtain ⟨k, u, rfl, rfl, hu0, hu1, hk, HK⟩ := hrel
    by_cases hu : 0 < u
    · go_wp2_with fail
      go_round
      case rel =>
        have h := HK.out
        rw [digs0_pos (by omega), List.length_append, List.length_singleton] at h
        exact ⟨k + 1, u / 10, by go_num, rfl, by omega, by omega, by omega, Lib.hid (by rw [show (u / 10).toNat = u.toNat / 10 by omega]; omega)⟩
      case measure => simp [intOf]; omega
    · obtain rfl : u = 0 := by omega
      have hkN : k = N := by
        have h := HK.out
        rw [show (0 : Int).toNat = 0 by rfl, digs0_zero] at h
        simpa using h
      subst hkN
      obtain ⟨P, hP⟩ : ∃ P, P = wd - k := ⟨_, rfl⟩
      have hPk : P + k ≤ 9 := by omega
      go_wp2_with fail
      go_loopw [0, 11] (fun s p wr => ∃ j : Nat, s = .slice (some ⟨b, 0, none⟩) (n + j : Nat) 64 ∧ p = .int .i64 ((wd : Int) - k - j) ∧ j ≤ P ∧ Hid (Buf wr b (l ++ zeros j) ∧ Keeps (· = b) w wr)) (fun _ p _ => (intOf p).toNat)
      case atStart => exact ⟨0, by simp, congrArg (Value.int .i64) (by omega), Nat.zero_le _, Lib.hid ⟨by simpa [zeros] using HB.out, Keeps.refl _ _⟩⟩
      case round =>
        obtain ⟨j, rfl, rfl, hj, HH⟩ := hrel
        by_cases hjP : j < P
        · have hlj : Hid ((l ++ zeros j).length = n + j) := Lib.hid (by simp [zeros, HN.out])
          have h65 : n + j + 1 ≤ 64 := by omega
          go_wp2_with (first
            | (at_builtin; refine Lib.wpList_append_run _ rfl _ _ 43 43 rfl _ _ rfl rfl _ _ (buf_append (m := [48]) (HH.out.1.alloc _) rfl (by assumption) (new_cells _ _ _ rfl)) ?_))
          go_roundw
          case rel =>
            refine ⟨j + 1, rfl, by go_num, by omega, Lib.hid ⟨?_, (HH.out.2.alloc _).setCells _ _ (.inl rfl)⟩⟩
            have := (HH.out.1.alloc (.cells #[.int .u8 48] 5)).puts [48] (n + j) hlj.out h65
            rw [List.append_assoc] at this
            rw [show zeros (j + 1) = zeros j ++ [48] from List.replicate_succ' ..]
            exact this
          case measure => simp [intOf]; omega
        · obtain rfl : j = P := by omega
          have hw0 : (wd : Int) - k - j ≤ 0 := by omega
          have hnk : n + j + k ≤ 64 := by omega
          have hlz : Hid ((l ++ zeros j).length = n + j) := Lib.hid (by simp [zeros, HN.out])
          have HP := Lib.hid hP
          clear hP
          obtain ⟨wo, hwo⟩ : ∃ wo, wo = wr := ⟨_, rfl⟩
          subst hwo
          go_upto_region 21 with fail
          go_cut [95] (fun t wc => t = .bool true ∧ wo = wc)
          case first =>
            go_wp2_with fail
            go_meet
            exact ⟨congrArg Value.bool (decide_eq_true (by omega)), rfl⟩
          case rest =>
          obtain ⟨rfl, rfl⟩ := hcut
          go_wp2_with fail
          go_loopw [7, 12] (fun y i w2 => ∃ (u : Int) (I : Nat) (T : List UInt8), y = .int .u64 u ∧ i = .int .i64 I ∧ 0 ≤ u ∧ u < 1000000000 ∧ I < n + j + k ∧ (10 ≤ u → 1 ≤ I) ∧ Hid (I + 1 = n + j + (digs u.toNat).length ∧ digs x.toNat = digs u.toNat ++ T ∧ Hole w2 b (l ++ zeros j) (digs u.toNat).length T ∧ Keeps (· = b) w w2)) (fun y _ _ => (intOf y).toNat)
          case atStart =>
            have hk := HNN.out
            refine ⟨x, n + j + k - 1, [], rfl, congrArg (Value.int .i64) (by omega), h0, h1, by omega, fun h => ?_, Lib.hid ⟨by omega, by simp, Hole.of_buf HH.out.1 _ (by rw [hlz.out]; omega), HH.out.2⟩⟩
            have : 2 ≤ (digs x.toNat).length := by
              rw [digs_ten (by omega), List.length_append]
              have := digs_pos (x.toNat / 10)
              simp; omega
            omega
          case round =>
            obtain ⟨u, I, T, rfl, rfl, hu0, hu1, hI, hI1, HR⟩ := hrel
            obtain ⟨v, hv⟩ := HR.out.2.2.1.cell I (by omega)
            have hf := HR.out.2.2.1.frozen I
            by_cases hu : 10 ≤ u
            · have hI2 : 1 ≤ I := hI1 hu
              clear hI1
              go_wp2_with (first
                | (go_at_call 50; refine (utod_any _ (by omega) (by omega) _).mono ?_; rintro e w' ⟨rfl, rfl⟩))
              go_roundw
              case rel =>
                obtain ⟨hr1, hr2, hr3, hr4⟩ := HR.out
                rw [digs_ten (by omega : 10 ≤ u.toNat), List.length_append, List.length_singleton] at hr1
                rw [digs_ten (by omega : 10 ≤ u.toNat)] at hr2 hr3
                rw [List.length_append, List.length_singleton] at hr3
                have e : (u / 10).toNat = u.toNat / 10 := by omega
                refine ⟨u / 10, I - 1, dg u.toNat :: T, rfl, congrArg (Value.int .i64) (by omega), by omega, by omega, by omega, fun h => ?_, Lib.hid ⟨?_, ?_, ?_, hr4.set (p := ⟨b, I, none⟩) (.inl rfl) _⟩⟩
                · have : 2 ≤ (digs (u.toNat / 10)).length := by
                    rw [digs_ten (by omega), List.length_append]
                    have := digs_pos (u.toNat / 10 / 10)
                    simp; omega
                  omega
                · rw [e]; omega
                · rw [e, hr2, List.append_assoc]; rfl
                · rw [e]
                  exact hr3.put (dg u.toNat) _ (by rw [dg_toNat]; omega) I (by rw [hlz.out]; omega)
              case measure => simp [intOf]; omega
            · clear hI1
              go_wp2_with (first
                | (go_at_call 50; refine (utod_any _ (by omega) (by omega) _).mono ?_; rintro e w' ⟨rfl, rfl⟩))
              go_ret
              obtain ⟨hr1, hr2, hr3, hr4⟩ := HR.out
              rw [digs_one (by omega : u.toNat < 10)] at hr1 hr2 hr3
              have hb := (hr3.put (dg u.toNat) (48 + u) (by rw [dg_toNat]; omega) I (by rw [hlz.out]; simp at hr1; omega)).to_buf
              rw [show dg u.toNat :: T = digs x.toNat by rw [hr2]; rfl, List.append_assoc] at hb
              rw [← HP.out]
              refine ⟨?_, hb, hr4.set (p := ⟨b, I, none⟩) (.inl rfl) _⟩
              have := hlz.out
              have := HNN.out
              have e : (l ++ (zeros j ++ digs x.toNat)).length = n + j + k := by rw [← List.append_assoc, List.length_append]; omega
              rw [e]
              rfl
end Go.Proofs.YtggebombeflmhaaDoor
