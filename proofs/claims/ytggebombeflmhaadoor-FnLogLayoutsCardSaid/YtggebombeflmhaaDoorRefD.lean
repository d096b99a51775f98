/- The reference's LLaid: its contract. -/
import Derived.Test.YtggebombeflmhaaDoorRefB
namespace Go.Proofs.YtggebombeflmhaaDoor
open Go.RowKit

theorem out_of2 {t : ByteArray} {l : List UInt8} (h : t.data.toList = l) : Ending.returned (.string t) = .returned (.string ⟨l.toArray⟩) := by rw [str_of h]
/-- A text of two digits, its bytes. -/
theorem dg_range (n : Nat) : 48 ≤ ((dg n).toNat : Int) ∧ ((dg n).toNat : Int) ≤ 57 := by
  rw [dg_toNat]
  omega

def trimF (F : Nat) : List UInt8 := ((d9 F).reverse.dropWhile (· == 48)).reverse
theorem drop_zeros : ∀ (k : Nat) (y : List UInt8), y.head? ≠ some 48 → (List.replicate k 48 ++ y).dropWhile (· == 48) = y
  | 0, [], _ => rfl
  | 0, c :: y, h => by
    have hc : (c == 48) = false := beq_eq_false_iff_ne.2 fun e => h (by rw [e]; rfl)
    show (c :: y).dropWhile (· == 48) = c :: y
    rw [List.dropWhile_cons, hc]
    rfl
  | k + 1, y, h => by
    rw [List.replicate_succ, List.cons_append, List.dropWhile_cons]
    exact drop_zeros k y h
theorem trim_unique {F : Nat} {x : List UInt8} (h : Frac F x) (hl : x.getLast? ≠ some 48) : x = trimF F := by
  obtain ⟨k, hk⟩ := h
  unfold trimF
  rw [hk, List.reverse_append, show (zeros k).reverse = List.replicate k 48 from List.reverse_replicate .., drop_zeros k _ (by rw [List.head?_reverse]; exact hl), List.reverse_reverse]
/-- Stamp without a fraction. -/
theorem stamp_plain (S : Int) (n s : Nat) (h0 : -4690000000 ≤ S) (h1 : S ≤ 4690000000) (hs : s < 86400) (hS : S = 86400 * ((n : Int) - 719468) + s) (hn0 : 655360 ≤ n) (hn1 : n < 786432) (ns F : Int) (hF0 : 0 ≤ F) (hF1 : F < 1000000000) (hns : ns = S * 1000000000 + F) (w0 w : World) (hB : Below w0.heap.size w0 w) :
    (Calls Tryd.prog 10 #[.int .i64 ns, .int .i64 0, .bool false] w fun e w' => e = .returned (.string ⟨(stampL n s ++ [90]).toArray⟩) ∧ Below w0.heap.size w0 w') ∧
    (F = 0 → Calls Tryd.prog 10 #[.int .i64 ns, .int .i64 0, .bool true] w fun e w' => e = .returned (.string ⟨(stampL n s ++ [90]).toArray⟩) ∧ Below w0.heap.size w0 w') ∧
    (0 < F → Calls Tryd.prog 10 #[.int .i64 ns, .int .i64 0, .bool true] w fun e w' => (e = .returned (.string ⟨(stampL n s ++ (46 :: trimF F.toNat) ++ [90]).toArray⟩) ∧ Frac F.toNat (trimF F.toNat) ∧ 0 < (trimF F.toNat).length ∧ (trimF F.toNat).length ≤ 9) ∧ Below w0.heap.size w0 w') := by
  obtain ⟨y, d, m0, dd, M, Y, st⟩ := steps_of n
  have hcb := civ_bounds n
  have hyb := civY_bounds (N := n) hn0 hn1
  have bY0 : 1000 ≤ Y := by rw [st.hY]; omega
  have bY1 : Y < 10000 := by rw [st.hY]; omega
  have bM0 : 0 ≤ M := by rw [st.hM]; omega
  have bM1 : M < 100 := by rw [st.hM]; omega
  have bd0 : 0 ≤ dd := by rw [st.hD]; omega
  have bd1 : dd < 100 := by rw [st.hD]; omega
  have F1 : Hid (∀ W, Calls Tryd.prog 11 #[.int .i64 ns, .int .i64 1000000000] W fun e w' => e = .returned (.int .i64 S) ∧ W = w') := Lib.hid fun W => by
    have := floor_any ns 1000000000 (by decide) (by decide) (by omega) (by omega) W
    rw [show ns / 1000000000 = S by omega] at this
    exact this
  have F2 : Hid (∀ W, Calls Tryd.prog 11 #[.int .i64 S, .int .i64 86400] W fun e w' => e = .returned (.int .i64 ((n : Int) - 719468)) ∧ W = w') := Lib.hid fun W => by
    have := floor_any S 86400 (by decide) (by decide) (by omega) (by omega) W
    rw [show S / 86400 = (n : Int) - 719468 by omega] at this
    exact this
  have F3 : Hid (∀ W, Calls Tryd.prog 11 #[.int .i64 n, .int .i64 146097] W fun e w' => e = .returned (.int .i64 ((n / 146097 : Nat) : Int)) ∧ W = w') := Lib.hid fun W => by
    have := floor_any n 146097 (by decide) (by decide) (by omega) (by omega) W
    rw [show (n : Int) / 146097 = ((n / 146097 : Nat) : Int) by omega] at this
    exact this
  have P4 := fun W hW => padded4 Y bY0 bY1 w0 W hW
  have P2 := fun (x : Int) (h0 : 0 ≤ x) (h1 : x < 100) W hW => padded2 x h0 h1 w0 W hW
  have e1 : ns - S * 1000000000 = F := by omega
  have e2 : S - ((n : Int) - 719468) * 86400 = s := by omega
  have e4 : (n : Int) - ((n / 146097 : Nat) : Int) * 146097 = ((n % 146097 : Nat) : Int) := by omega
  have eB : (stampB ⟨(d4 Y.toNat).toArray⟩ ⟨(d2 M.toNat).toArray⟩ ⟨(d2 dd.toNat).toArray⟩ ⟨(d2 ((s : Int) / 3600).toNat).toArray⟩ ⟨(d2 ((s : Int) / 60 % 60).toNat).toArray⟩ ⟨(d2 ((s : Int) % 60).toNat).toArray⟩).data.toList = stampL n s := by
    rw [st.hY, st.hM, st.hD, show ((s : Int) / 3600).toNat = s / 3600 by omega, show ((s : Int) / 60 % 60).toNat = s % 3600 / 60 by omega, show ((s : Int) % 60).toNat = s % 60 by omega]
    simp only [stampB, ByteArray.data_append, Array.toList_append, List.append_assoc, Int.toNat_natCast]
    rfl
  have z9 : (⟨(d9 F.toNat).toArray⟩ : ByteArray).size ≤ 9 := by
    show (d9 F.toNat).toArray.size ≤ 9
    rw [List.size_toArray, d9_len (by omega)]
    exact Nat.le_refl 9
  rcases Int.lt_or_le m0 10 with hj | hj
  · obtain ⟨eM, eY⟩ := st.low hj
    refine ⟨?_, fun hz => ?_, fun hp => ?_⟩
    · refine (stamp_noa ns S F _ s n _ _ y d m0 dd M Y _ _ _ (by omega) (by omega) hF0 hF1 (by omega) (by omega) (by omega) (by omega) (by omega) (by omega) (by omega) (by omega) st.y0 st.y1 st.d0 st.d1 st.m00 (by omega) e1 e2 (by omega) e4 st.ey st.ed st.em st.edd eM eY rfl rfl rfl F1 F2 F3 w0 w
        ⟨(d4 Y.toNat).toArray⟩ (by decide : (4 : Nat) ≤ 9) (Lib.hid P4) ⟨(d2 M.toNat).toArray⟩ (by decide : (2 : Nat) ≤ 9) (Lib.hid (P2 M bM0 bM1)) ⟨(d2 dd.toNat).toArray⟩ (by decide : (2 : Nat) ≤ 9) (Lib.hid (P2 dd bd0 bd1)) ⟨(d2 ((s : Int) / 3600).toNat).toArray⟩ (by decide : (2 : Nat) ≤ 9) (Lib.hid (P2 ((s : Int) / 3600) (by omega) (by omega))) ⟨(d2 ((s : Int) / 60 % 60).toNat).toArray⟩ (by decide : (2 : Nat) ≤ 9) (Lib.hid (P2 ((s : Int) / 60 % 60) (by omega) (by omega))) ⟨(d2 ((s : Int) % 60).toNat).toArray⟩ (by decide : (2 : Nat) ≤ 9) (Lib.hid (P2 ((s : Int) % 60) (by omega) (by omega))) hB).mono ?_
      rintro e w' ⟨rfl, hb⟩
      refine ⟨out_of2 ?_, hb⟩
      rw [ByteArray.data_append, Array.toList_append, eB]
    · refine (stamp_za ns S F _ s n _ _ y d m0 dd M Y _ _ _ (by omega) (by omega) hF0 hF1 (by omega) (by omega) (by omega) (by omega) (by omega) (by omega) (by omega) (by omega) (by omega) st.y0 st.y1 st.d0 st.d1 st.m00 (by omega) e1 e2 (by omega) e4 st.ey st.ed st.em st.edd eM eY rfl rfl rfl F1 F2 F3 w0 w
        ⟨(d4 Y.toNat).toArray⟩ (by decide : (4 : Nat) ≤ 9) (Lib.hid P4) ⟨(d2 M.toNat).toArray⟩ (by decide : (2 : Nat) ≤ 9) (Lib.hid (P2 M bM0 bM1)) ⟨(d2 dd.toNat).toArray⟩ (by decide : (2 : Nat) ≤ 9) (Lib.hid (P2 dd bd0 bd1)) ⟨(d2 ((s : Int) / 3600).toNat).toArray⟩ (by decide : (2 : Nat) ≤ 9) (Lib.hid (P2 ((s : Int) / 3600) (by omega) (by omega))) ⟨(d2 ((s : Int) / 60 % 60).toNat).toArray⟩ (by decide : (2 : Nat) ≤ 9) (Lib.hid (P2 ((s : Int) / 60 % 60) (by omega) (by omega))) ⟨(d2 ((s : Int) % 60).toNat).toArray⟩ (by decide : (2 : Nat) ≤ 9) (Lib.hid (P2 ((s : Int) % 60) (by omega) (by omega))) hB).mono ?_
      rintro e w' ⟨rfl, hb⟩
      refine ⟨out_of2 ?_, hb⟩
      rw [ByteArray.data_append, Array.toList_append, eB]
    · refine (stamp_fa ns S F _ s n _ _ y d m0 dd M Y _ _ _ (by omega) (by omega) hF0 hF1 hp (by omega) (by omega) (by omega) (by omega) (by omega) (by omega) (by omega) (by omega) st.y0 st.y1 st.d0 st.d1 st.m00 (by omega) e1 e2 (by omega) e4 st.ey st.ed st.em st.edd eM eY rfl rfl rfl F1 F2 F3 w0 w
        ⟨(d4 Y.toNat).toArray⟩ (by decide : (4 : Nat) ≤ 9) (Lib.hid P4) ⟨(d2 M.toNat).toArray⟩ (by decide : (2 : Nat) ≤ 9) (Lib.hid (P2 M bM0 bM1)) ⟨(d2 dd.toNat).toArray⟩ (by decide : (2 : Nat) ≤ 9) (Lib.hid (P2 dd bd0 bd1)) ⟨(d2 ((s : Int) / 3600).toNat).toArray⟩ (by decide : (2 : Nat) ≤ 9) (Lib.hid (P2 ((s : Int) / 3600) (by omega) (by omega))) ⟨(d2 ((s : Int) / 60 % 60).toNat).toArray⟩ (by decide : (2 : Nat) ≤ 9) (Lib.hid (P2 ((s : Int) / 60 % 60) (by omega) (by omega))) ⟨(d2 ((s : Int) % 60).toNat).toArray⟩ (by decide : (2 : Nat) ≤ 9) (Lib.hid (P2 ((s : Int) % 60) (by omega) (by omega))) ⟨(d9 F.toNat).toArray⟩ z9 (Lib.hid (padded9 F hF0 hF1 w0)) (Lib.hid rfl) hB).mono ?_
      rintro e w' ⟨⟨x, rfl, hx, hx0, hx9, hlast⟩, hb⟩
      have ht := trim_unique hx hlast
      have h3 : x.size = x.data.toList.length := by simp
      rw [ht] at hx h3
      refine ⟨⟨out_of2 ?_, hx, by omega, by omega⟩, hb⟩
      rw [ByteArray.data_append, ByteArray.data_append, ByteArray.data_append, Array.toList_append, Array.toList_append, Array.toList_append, eB, ht]
      rfl
  · obtain ⟨eM, eY⟩ := st.high hj
    refine ⟨?_, fun hz => ?_, fun hp => ?_⟩
    · refine (stamp_nob ns S F _ s n _ _ y d m0 dd M Y _ _ _ (by omega) (by omega) hF0 hF1 (by omega) (by omega) (by omega) (by omega) (by omega) (by omega) (by omega) (by omega) st.y0 st.y1 st.d0 st.d1 hj st.m01 e1 e2 (by omega) e4 st.ey st.ed st.em st.edd eM eY rfl rfl rfl F1 F2 F3 w0 w
        ⟨(d4 Y.toNat).toArray⟩ (by decide : (4 : Nat) ≤ 9) (Lib.hid P4) ⟨(d2 M.toNat).toArray⟩ (by decide : (2 : Nat) ≤ 9) (Lib.hid (P2 M bM0 bM1)) ⟨(d2 dd.toNat).toArray⟩ (by decide : (2 : Nat) ≤ 9) (Lib.hid (P2 dd bd0 bd1)) ⟨(d2 ((s : Int) / 3600).toNat).toArray⟩ (by decide : (2 : Nat) ≤ 9) (Lib.hid (P2 ((s : Int) / 3600) (by omega) (by omega))) ⟨(d2 ((s : Int) / 60 % 60).toNat).toArray⟩ (by decide : (2 : Nat) ≤ 9) (Lib.hid (P2 ((s : Int) / 60 % 60) (by omega) (by omega))) ⟨(d2 ((s : Int) % 60).toNat).toArray⟩ (by decide : (2 : Nat) ≤ 9) (Lib.hid (P2 ((s : Int) % 60) (by omega) (by omega))) hB).mono ?_
      rintro e w' ⟨rfl, hb⟩
      refine ⟨out_of2 ?_, hb⟩
      rw [ByteArray.data_append, Array.toList_append, eB]
    · refine (stamp_zb ns S F _ s n _ _ y d m0 dd M Y _ _ _ (by omega) (by omega) hF0 hF1 (by omega) (by omega) (by omega) (by omega) (by omega) (by omega) (by omega) (by omega) (by omega) st.y0 st.y1 st.d0 st.d1 hj st.m01 e1 e2 (by omega) e4 st.ey st.ed st.em st.edd eM eY rfl rfl rfl F1 F2 F3 w0 w
        ⟨(d4 Y.toNat).toArray⟩ (by decide : (4 : Nat) ≤ 9) (Lib.hid P4) ⟨(d2 M.toNat).toArray⟩ (by decide : (2 : Nat) ≤ 9) (Lib.hid (P2 M bM0 bM1)) ⟨(d2 dd.toNat).toArray⟩ (by decide : (2 : Nat) ≤ 9) (Lib.hid (P2 dd bd0 bd1)) ⟨(d2 ((s : Int) / 3600).toNat).toArray⟩ (by decide : (2 : Nat) ≤ 9) (Lib.hid (P2 ((s : Int) / 3600) (by omega) (by omega))) ⟨(d2 ((s : Int) / 60 % 60).toNat).toArray⟩ (by decide : (2 : Nat) ≤ 9) (Lib.hid (P2 ((s : Int) / 60 % 60) (by omega) (by omega))) ⟨(d2 ((s : Int) % 60).toNat).toArray⟩ (by decide : (2 : Nat) ≤ 9) (Lib.hid (P2 ((s : Int) % 60) (by omega) (by omega))) hB).mono ?_
      rintro e w' ⟨rfl, hb⟩
      refine ⟨out_of2 ?_, hb⟩
      rw [ByteArray.data_append, Array.toList_append, eB]
    · refine (stamp_fb ns S F _ s n _ _ y d m0 dd M Y _ _ _ (by omega) (by omega) hF0 hF1 hp (by omega) (by omega) (by omega) (by omega) (by omega) (by omega) (by omega) (by omega) st.y0 st.y1 st.d0 st.d1 hj st.m01 e1 e2 (by omega) e4 st.ey st.ed st.em st.edd eM eY rfl rfl rfl F1 F2 F3 w0 w
        ⟨(d4 Y.toNat).toArray⟩ (by decide : (4 : Nat) ≤ 9) (Lib.hid P4) ⟨(d2 M.toNat).toArray⟩ (by decide : (2 : Nat) ≤ 9) (Lib.hid (P2 M bM0 bM1)) ⟨(d2 dd.toNat).toArray⟩ (by decide : (2 : Nat) ≤ 9) (Lib.hid (P2 dd bd0 bd1)) ⟨(d2 ((s : Int) / 3600).toNat).toArray⟩ (by decide : (2 : Nat) ≤ 9) (Lib.hid (P2 ((s : Int) / 3600) (by omega) (by omega))) ⟨(d2 ((s : Int) / 60 % 60).toNat).toArray⟩ (by decide : (2 : Nat) ≤ 9) (Lib.hid (P2 ((s : Int) / 60 % 60) (by omega) (by omega))) ⟨(d2 ((s : Int) % 60).toNat).toArray⟩ (by decide : (2 : Nat) ≤ 9) (Lib.hid (P2 ((s : Int) % 60) (by omega) (by omega))) ⟨(d9 F.toNat).toArray⟩ z9 (Lib.hid (padded9 F hF0 hF1 w0)) (Lib.hid rfl) hB).mono ?_
      rintro e w' ⟨⟨x, rfl, hx, hx0, hx9, hlast⟩, hb⟩
      have ht := trim_unique hx hlast
      have h3 : x.size = x.data.toList.length := by simp
      rw [ht] at hx h3
      refine ⟨⟨out_of2 ?_, hx, by omega, by omega⟩, hb⟩
      rw [ByteArray.data_append, ByteArray.data_append, ByteArray.data_append, Array.toList_append, Array.toList_append, Array.toList_append, eB, ht]
      rfl
end Go.Proofs.YtggebombeflmhaaDoor
