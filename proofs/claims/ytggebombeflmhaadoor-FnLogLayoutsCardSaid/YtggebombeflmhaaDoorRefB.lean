/- The reference's Stamp: walks. -/
import Derived.Test.YtggebombeflmhaaDoorRefP
import Derived.Test.YtggebombeflmhaaDoorLayV
import Derived.Deep.DeepCutAuto
import Derived.LoopTactic
namespace Go.Proofs.YtggebombeflmhaaDoor
open Go.RowKit

theorem frac_all {F : Nat} {x : List UInt8} (h : x = d9 F) : Frac F x := ⟨0, by rw [h]; simp [zeros]⟩
theorem frac_drop {F : Nat} {y : List UInt8} (h : Frac F (y ++ [48])) : Frac F y := by
  have := h.drop (by simp)
  simpa using this
theorem last_byte (x : ByteArray) (h : 0 < x.size) : ∃ (k : Nat) (c : UInt8) (x1 : ByteArray), k + 1 = x.size ∧ x.data.toList = x1.data.toList ++ [c] ∧
    (∀ W, (Instr.index 9 (.string x) (.int .i64 k)).run Tryd.prog W = .ok (.int .u8 (c.toNat : Int)) W) ∧ (∀ W, (Instr.slice 9 (.string x) none (some (.int .i64 k)) none).run Tryd.prog W = .ok (.string x1) W) := by
  obtain ⟨l, hl⟩ : ∃ l, x.data.toList = l := ⟨_, rfl⟩
  have hs : x.size = l.length := by rw [← hl]; simp
  have hne : l ≠ [] := fun e => by
    rw [e] at hs
    exact absurd (show x.size = 0 from hs) (by omega)
  have hk : l.length - 1 < l.length := by omega
  refine ⟨l.length - 1, l[l.length - 1], ⟨(l.take (l.length - 1)).toArray⟩, by omega, ?_, byte_at x l hl _ hk, ahead_at x l hl _ (by omega)⟩
  rw [hl]
  have := List.dropLast_concat_getLast hne
  rw [List.getLast_eq_getElem, List.dropLast_eq_take] at this
  exact this.symm
theorem frac_pos {F : Nat} {x : ByteArray} (h : Frac F x.data.toList) (hF : 0 < F) : 0 < x.size := by
  obtain ⟨k, hk⟩ := h
  have := d9_cut hF hk
  have h3 : x.size = x.data.toList.length := by simp
  rw [h3]
  exact List.length_pos_iff.2 this
/-- The first part of what Stamp writes. -/
def stampB (xY xM xdd xh xmi xc : ByteArray) : ByteArray := xY ++ ⟨#[45]⟩ ++ xM ++ ⟨#[45]⟩ ++ xdd ++ ⟨#[84]⟩ ++ xh ++ ⟨#[58]⟩ ++ xmi ++ ⟨#[58]⟩ ++ xc
def StampF (b : ByteArray) (F : Nat) (e : Ending) : Prop := ∃ x : ByteArray, e = .returned (.string (b ++ (⟨#[46]⟩ ++ x) ++ ⟨#[90]⟩)) ∧ Frac F x.data.toList ∧ 0 < x.size ∧ x.size ≤ 9 ∧ x.data.toList.getLast? ≠ some 48

set_option maxRecDepth 100000 in
set_option maxHeartbeats 4000000 in
theorem stamp_noa (ns S F Dd s N E o y d m0 dd M Y h mi c : Int) (bS0 : -4700000000 ≤ S) (bS1 : S ≤ 4700000000) (bF0 : 0 ≤ F) (bF1 : F < 1000000000) (bs0 : 0 ≤ s) (bs1 : s < 86400) (bD0 : -100000 ≤ Dd) (bD1 : Dd ≤ 100000) (bE0 : 0 ≤ E) (bE1 : E < 10) (bo0 : 0 ≤ o) (bo1 : o < 146097)
    (by0 : 0 ≤ y) (by1 : y < 400) (bd0 : 0 ≤ d) (bd1 : d < 366) (bm0 : 0 ≤ m0) (bm1 : m0 ≤ 9)
    (e1 : ns - S * 1000000000 = F) (e2 : S - Dd * 86400 = s) (e3 : Dd + 719468 = N) (e4 : N - E * 146097 = o) (ey : (o - o / 1460 + o / 36524 - o / 146096) / 365 = y) (ed : o - (365 * y + y / 4 - y / 100) = d) (em : (5 * d + 2) / 153 = m0) (edd : d - (153 * m0 + 2) / 5 + 1 = dd) (eM : m0 + 3 = M) (eY : y + E * 400 = Y) (eh : s / 3600 = h) (emi : s / 60 % 60 = mi) (ec : s % 60 = c)
    (F1 : Hid (∀ W, Calls Tryd.prog 11 #[.int .i64 ns, .int .i64 1000000000] W fun e w' => e = .returned (.int .i64 S) ∧ W = w')) (F2 : Hid (∀ W, Calls Tryd.prog 11 #[.int .i64 S, .int .i64 86400] W fun e w' => e = .returned (.int .i64 Dd) ∧ W = w')) (F3 : Hid (∀ W, Calls Tryd.prog 11 #[.int .i64 N, .int .i64 146097] W fun e w' => e = .returned (.int .i64 E) ∧ W = w'))
    (w0 w : World) (xY : ByteArray) (zY : xY.size ≤ 9) (PY : Hid (∀ W, Below w0.heap.size w0 W → Calls Tryd.prog 12 #[.int .i64 Y, .int .i64 4] W fun e w' => e = .returned (.string xY) ∧ Below w0.heap.size w0 w')) (xM : ByteArray) (zM : xM.size ≤ 9) (PM : Hid (∀ W, Below w0.heap.size w0 W → Calls Tryd.prog 12 #[.int .i64 M, .int .i64 2] W fun e w' => e = .returned (.string xM) ∧ Below w0.heap.size w0 w')) (xdd : ByteArray) (zdd : xdd.size ≤ 9) (Pdd : Hid (∀ W, Below w0.heap.size w0 W → Calls Tryd.prog 12 #[.int .i64 dd, .int .i64 2] W fun e w' => e = .returned (.string xdd) ∧ Below w0.heap.size w0 w')) (xh : ByteArray) (zh : xh.size ≤ 9) (Ph : Hid (∀ W, Below w0.heap.size w0 W → Calls Tryd.prog 12 #[.int .i64 h, .int .i64 2] W fun e w' => e = .returned (.string xh) ∧ Below w0.heap.size w0 w')) (xmi : ByteArray) (zmi : xmi.size ≤ 9) (Pmi : Hid (∀ W, Below w0.heap.size w0 W → Calls Tryd.prog 12 #[.int .i64 mi, .int .i64 2] W fun e w' => e = .returned (.string xmi) ∧ Below w0.heap.size w0 w')) (xc : ByteArray) (zc : xc.size ≤ 9) (Pc : Hid (∀ W, Below w0.heap.size w0 W → Calls Tryd.prog 12 #[.int .i64 c, .int .i64 2] W fun e w' => e = .returned (.string xc) ∧ Below w0.heap.size w0 w')) (hB : Below w0.heap.size w0 w)
    : Calls Tryd.prog 10 #[.int .i64 ns, .int .i64 0, .bool false] w fun e w' => e = .returned (.string (stampB xY xM xdd xh xmi xc ++ ⟨#[90]⟩)) ∧ Below w0.heap.size w0 w' := by
  have HB := Lib.hid hB
  clear hB
  go_enter Tryd.func10, Tryd.ntmps10
  go_wp2_with (first
    | (go_at_call 11; (first | (with_reducible refine (F1.out _).mono ?_) | (with_reducible refine (F2.out _).mono ?_) | (with_reducible refine (F3.out _).mono ?_)); rintro e w' ⟨rfl, rfl⟩)
    | (go_at_call 12; (with_reducible refine (PY.out _ HB.out).mono ?_); rintro e v0 ⟨rfl, hv0⟩; have B0 := Lib.hid hv0; clear hv0)
    | (go_at_call 12; (with_reducible refine (PM.out _ B0.out).mono ?_); rintro e v1 ⟨rfl, hv1⟩; have B1 := Lib.hid hv1; clear hv1)
    | (go_at_call 12; (with_reducible refine (Pdd.out _ B1.out).mono ?_); rintro e v2 ⟨rfl, hv2⟩; have B2 := Lib.hid hv2; clear hv2)
    | (go_at_call 12; (with_reducible refine (Ph.out _ B2.out).mono ?_); rintro e v3 ⟨rfl, hv3⟩; have B3 := Lib.hid hv3; clear hv3)
    | (go_at_call 12; (with_reducible refine (Pmi.out _ B3.out).mono ?_); rintro e v4 ⟨rfl, hv4⟩; have B4 := Lib.hid hv4; clear hv4)
    | (go_at_call 12; (with_reducible refine (Pc.out _ B4.out).mono ?_); rintro e v5 ⟨rfl, hv5⟩; have B5 := Lib.hid hv5; clear hv5))
  go_ret
  exact ⟨rfl, B5.out⟩

set_option maxRecDepth 100000 in
set_option maxHeartbeats 4000000 in
theorem stamp_nob (ns S F Dd s N E o y d m0 dd M Y h mi c : Int) (bS0 : -4700000000 ≤ S) (bS1 : S ≤ 4700000000) (bF0 : 0 ≤ F) (bF1 : F < 1000000000) (bs0 : 0 ≤ s) (bs1 : s < 86400) (bD0 : -100000 ≤ Dd) (bD1 : Dd ≤ 100000) (bE0 : 0 ≤ E) (bE1 : E < 10) (bo0 : 0 ≤ o) (bo1 : o < 146097)
    (by0 : 0 ≤ y) (by1 : y < 400) (bd0 : 0 ≤ d) (bd1 : d < 366) (bm0 : 10 ≤ m0) (bm1 : m0 ≤ 11)
    (e1 : ns - S * 1000000000 = F) (e2 : S - Dd * 86400 = s) (e3 : Dd + 719468 = N) (e4 : N - E * 146097 = o) (ey : (o - o / 1460 + o / 36524 - o / 146096) / 365 = y) (ed : o - (365 * y + y / 4 - y / 100) = d) (em : (5 * d + 2) / 153 = m0) (edd : d - (153 * m0 + 2) / 5 + 1 = dd) (eM : m0 - 9 = M) (eY : y + E * 400 + 1 = Y) (eh : s / 3600 = h) (emi : s / 60 % 60 = mi) (ec : s % 60 = c)
    (F1 : Hid (∀ W, Calls Tryd.prog 11 #[.int .i64 ns, .int .i64 1000000000] W fun e w' => e = .returned (.int .i64 S) ∧ W = w')) (F2 : Hid (∀ W, Calls Tryd.prog 11 #[.int .i64 S, .int .i64 86400] W fun e w' => e = .returned (.int .i64 Dd) ∧ W = w')) (F3 : Hid (∀ W, Calls Tryd.prog 11 #[.int .i64 N, .int .i64 146097] W fun e w' => e = .returned (.int .i64 E) ∧ W = w'))
    (w0 w : World) (xY : ByteArray) (zY : xY.size ≤ 9) (PY : Hid (∀ W, Below w0.heap.size w0 W → Calls Tryd.prog 12 #[.int .i64 Y, .int .i64 4] W fun e w' => e = .returned (.string xY) ∧ Below w0.heap.size w0 w')) (xM : ByteArray) (zM : xM.size ≤ 9) (PM : Hid (∀ W, Below w0.heap.size w0 W → Calls Tryd.prog 12 #[.int .i64 M, .int .i64 2] W fun e w' => e = .returned (.string xM) ∧ Below w0.heap.size w0 w')) (xdd : ByteArray) (zdd : xdd.size ≤ 9) (Pdd : Hid (∀ W, Below w0.heap.size w0 W → Calls Tryd.prog 12 #[.int .i64 dd, .int .i64 2] W fun e w' => e = .returned (.string xdd) ∧ Below w0.heap.size w0 w')) (xh : ByteArray) (zh : xh.size ≤ 9) (Ph : Hid (∀ W, Below w0.heap.size w0 W → Calls Tryd.prog 12 #[.int .i64 h, .int .i64 2] W fun e w' => e = .returned (.string xh) ∧ Below w0.heap.size w0 w')) (xmi : ByteArray) (zmi : xmi.size ≤ 9) (Pmi : Hid (∀ W, Below w0.heap.size w0 W → Calls Tryd.prog 12 #[.int .i64 mi, .int .i64 2] W fun e w' => e = .returned (.string xmi) ∧ Below w0.heap.size w0 w')) (xc : ByteArray) (zc : xc.size ≤ 9) (Pc : Hid (∀ W, Below w0.heap.size w0 W → Calls Tryd.prog 12 #[.int .i64 c, .int .i64 2] W fun e w' => e = .returned (.string xc) ∧ Below w0.heap.size w0 w')) (hB : Below w0.heap.size w0 w)
    : Calls Tryd.prog 10 #[.int .i64 ns, .int .i64 0, .bool false] w fun e w' => e = .returned (.string (stampB xY xM xdd xh xmi xc ++ ⟨#[90]⟩)) ∧ Below w0.heap.size w0 w' := by
  have HB := Lib.hid hB
  clear hB
  go_enter Tryd.func10, Tryd.ntmps10
  go_wp2_with (first
    | (go_at_call 11; (first | (with_reducible refine (F1.out _).mono ?_) | (with_reducible refine (F2.out _).mono ?_) | (with_reducible refine (F3.out _).mono ?_)); rintro e w' ⟨rfl, rfl⟩)
    | (go_at_call 12; (with_reducible refine (PY.out _ HB.out).mono ?_); rintro e v0 ⟨rfl, hv0⟩; have B0 := Lib.hid hv0; clear hv0)
    | (go_at_call 12; (with_reducible refine (PM.out _ B0.out).mono ?_); rintro e v1 ⟨rfl, hv1⟩; have B1 := Lib.hid hv1; clear hv1)
    | (go_at_call 12; (with_reducible refine (Pdd.out _ B1.out).mono ?_); rintro e v2 ⟨rfl, hv2⟩; have B2 := Lib.hid hv2; clear hv2)
    | (go_at_call 12; (with_reducible refine (Ph.out _ B2.out).mono ?_); rintro e v3 ⟨rfl, hv3⟩; have B3 := Lib.hid hv3; clear hv3)
    | (go_at_call 12; (with_reducible refine (Pmi.out _ B3.out).mono ?_); rintro e v4 ⟨rfl, hv4⟩; have B4 := Lib.hid hv4; clear hv4)
    | (go_at_call 12; (with_reducible refine (Pc.out _ B4.out).mono ?_); rintro e v5 ⟨rfl, hv5⟩; have B5 := Lib.hid hv5; clear hv5))
  go_ret
  exact ⟨rfl, B5.out⟩

set_option maxRecDepth 100000 in
set_option maxHeartbeats 4000000 in
theorem stamp_za (ns S F Dd s N E o y d m0 dd M Y h mi c : Int) (bS0 : -4700000000 ≤ S) (bS1 : S ≤ 4700000000) (bF0 : 0 ≤ F) (bF1 : F < 1000000000) (hFz : F ≤ 0) (bs0 : 0 ≤ s) (bs1 : s < 86400) (bD0 : -100000 ≤ Dd) (bD1 : Dd ≤ 100000) (bE0 : 0 ≤ E) (bE1 : E < 10) (bo0 : 0 ≤ o) (bo1 : o < 146097)
    (by0 : 0 ≤ y) (by1 : y < 400) (bd0 : 0 ≤ d) (bd1 : d < 366) (bm0 : 0 ≤ m0) (bm1 : m0 ≤ 9)
    (e1 : ns - S * 1000000000 = F) (e2 : S - Dd * 86400 = s) (e3 : Dd + 719468 = N) (e4 : N - E * 146097 = o) (ey : (o - o / 1460 + o / 36524 - o / 146096) / 365 = y) (ed : o - (365 * y + y / 4 - y / 100) = d) (em : (5 * d + 2) / 153 = m0) (edd : d - (153 * m0 + 2) / 5 + 1 = dd) (eM : m0 + 3 = M) (eY : y + E * 400 = Y) (eh : s / 3600 = h) (emi : s / 60 % 60 = mi) (ec : s % 60 = c)
    (F1 : Hid (∀ W, Calls Tryd.prog 11 #[.int .i64 ns, .int .i64 1000000000] W fun e w' => e = .returned (.int .i64 S) ∧ W = w')) (F2 : Hid (∀ W, Calls Tryd.prog 11 #[.int .i64 S, .int .i64 86400] W fun e w' => e = .returned (.int .i64 Dd) ∧ W = w')) (F3 : Hid (∀ W, Calls Tryd.prog 11 #[.int .i64 N, .int .i64 146097] W fun e w' => e = .returned (.int .i64 E) ∧ W = w'))
    (w0 w : World) (xY : ByteArray) (zY : xY.size ≤ 9) (PY : Hid (∀ W, Below w0.heap.size w0 W → Calls Tryd.prog 12 #[.int .i64 Y, .int .i64 4] W fun e w' => e = .returned (.string xY) ∧ Below w0.heap.size w0 w')) (xM : ByteArray) (zM : xM.size ≤ 9) (PM : Hid (∀ W, Below w0.heap.size w0 W → Calls Tryd.prog 12 #[.int .i64 M, .int .i64 2] W fun e w' => e = .returned (.string xM) ∧ Below w0.heap.size w0 w')) (xdd : ByteArray) (zdd : xdd.size ≤ 9) (Pdd : Hid (∀ W, Below w0.heap.size w0 W → Calls Tryd.prog 12 #[.int .i64 dd, .int .i64 2] W fun e w' => e = .returned (.string xdd) ∧ Below w0.heap.size w0 w')) (xh : ByteArray) (zh : xh.size ≤ 9) (Ph : Hid (∀ W, Below w0.heap.size w0 W → Calls Tryd.prog 12 #[.int .i64 h, .int .i64 2] W fun e w' => e = .returned (.string xh) ∧ Below w0.heap.size w0 w')) (xmi : ByteArray) (zmi : xmi.size ≤ 9) (Pmi : Hid (∀ W, Below w0.heap.size w0 W → Calls Tryd.prog 12 #[.int .i64 mi, .int .i64 2] W fun e w' => e = .returned (.string xmi) ∧ Below w0.heap.size w0 w')) (xc : ByteArray) (zc : xc.size ≤ 9) (Pc : Hid (∀ W, Below w0.heap.size w0 W → Calls Tryd.prog 12 #[.int .i64 c, .int .i64 2] W fun e w' => e = .returned (.string xc) ∧ Below w0.heap.size w0 w')) (hB : Below w0.heap.size w0 w)
    : Calls Tryd.prog 10 #[.int .i64 ns, .int .i64 0, .bool true] w fun e w' => e = .returned (.string (stampB xY xM xdd xh xmi xc ++ ⟨#[90]⟩)) ∧ Below w0.heap.size w0 w' := by
  have HB := Lib.hid hB
  clear hB
  go_enter Tryd.func10, Tryd.ntmps10
  go_wp2_with (first
    | (go_at_call 11; (first | (with_reducible refine (F1.out _).mono ?_) | (with_reducible refine (F2.out _).mono ?_) | (with_reducible refine (F3.out _).mono ?_)); rintro e w' ⟨rfl, rfl⟩)
    | (go_at_call 12; (with_reducible refine (PY.out _ HB.out).mono ?_); rintro e v0 ⟨rfl, hv0⟩; have B0 := Lib.hid hv0; clear hv0)
    | (go_at_call 12; (with_reducible refine (PM.out _ B0.out).mono ?_); rintro e v1 ⟨rfl, hv1⟩; have B1 := Lib.hid hv1; clear hv1)
    | (go_at_call 12; (with_reducible refine (Pdd.out _ B1.out).mono ?_); rintro e v2 ⟨rfl, hv2⟩; have B2 := Lib.hid hv2; clear hv2)
    | (go_at_call 12; (with_reducible refine (Ph.out _ B2.out).mono ?_); rintro e v3 ⟨rfl, hv3⟩; have B3 := Lib.hid hv3; clear hv3)
    | (go_at_call 12; (with_reducible refine (Pmi.out _ B3.out).mono ?_); rintro e v4 ⟨rfl, hv4⟩; have B4 := Lib.hid hv4; clear hv4)
    | (go_at_call 12; (with_reducible refine (Pc.out _ B4.out).mono ?_); rintro e v5 ⟨rfl, hv5⟩; have B5 := Lib.hid hv5; clear hv5))
  go_ret
  exact ⟨rfl, B5.out⟩

set_option maxRecDepth 100000 in
set_option maxHeartbeats 4000000 in
theorem stamp_zb (ns S F Dd s N E o y d m0 dd M Y h mi c : Int) (bS0 : -4700000000 ≤ S) (bS1 : S ≤ 4700000000) (bF0 : 0 ≤ F) (bF1 : F < 1000000000) (hFz : F ≤ 0) (bs0 : 0 ≤ s) (bs1 : s < 86400) (bD0 : -100000 ≤ Dd) (bD1 : Dd ≤ 100000) (bE0 : 0 ≤ E) (bE1 : E < 10) (bo0 : 0 ≤ o) (bo1 : o < 146097)
    (by0 : 0 ≤ y) (by1 : y < 400) (bd0 : 0 ≤ d) (bd1 : d < 366) (bm0 : 10 ≤ m0) (bm1 : m0 ≤ 11)
    (e1 : ns - S * 1000000000 = F) (e2 : S - Dd * 86400 = s) (e3 : Dd + 719468 = N) (e4 : N - E * 146097 = o) (ey : (o - o / 1460 + o / 36524 - o / 146096) / 365 = y) (ed : o - (365 * y + y / 4 - y / 100) = d) (em : (5 * d + 2) / 153 = m0) (edd : d - (153 * m0 + 2) / 5 + 1 = dd) (eM : m0 - 9 = M) (eY : y + E * 400 + 1 = Y) (eh : s / 3600 = h) (emi : s / 60 % 60 = mi) (ec : s % 60 = c)
    (F1 : Hid (∀ W, Calls Tryd.prog 11 #[.int .i64 ns, .int .i64 1000000000] W fun e w' => e = .returned (.int .i64 S) ∧ W = w')) (F2 : Hid (∀ W, Calls Tryd.prog 11 #[.int .i64 S, .int .i64 86400] W fun e w' => e = .returned (.int .i64 Dd) ∧ W = w')) (F3 : Hid (∀ W, Calls Tryd.prog 11 #[.int .i64 N, .int .i64 146097] W fun e w' => e = .returned (.int .i64 E) ∧ W = w'))
    (w0 w : World) (xY : ByteArray) (zY : xY.size ≤ 9) (PY : Hid (∀ W, Below w0.heap.size w0 W → Calls Tryd.prog 12 #[.int .i64 Y, .int .i64 4] W fun e w' => e = .returned (.string xY) ∧ Below w0.heap.size w0 w')) (xM : ByteArray) (zM : xM.size ≤ 9) (PM : Hid (∀ W, Below w0.heap.size w0 W → Calls Tryd.prog 12 #[.int .i64 M, .int .i64 2] W fun e w' => e = .returned (.string xM) ∧ Below w0.heap.size w0 w')) (xdd : ByteArray) (zdd : xdd.size ≤ 9) (Pdd : Hid (∀ W, Below w0.heap.size w0 W → Calls Tryd.prog 12 #[.int .i64 dd, .int .i64 2] W fun e w' => e = .returned (.string xdd) ∧ Below w0.heap.size w0 w')) (xh : ByteArray) (zh : xh.size ≤ 9) (Ph : Hid (∀ W, Below w0.heap.size w0 W → Calls Tryd.prog 12 #[.int .i64 h, .int .i64 2] W fun e w' => e = .returned (.string xh) ∧ Below w0.heap.size w0 w')) (xmi : ByteArray) (zmi : xmi.size ≤ 9) (Pmi : Hid (∀ W, Below w0.heap.size w0 W → Calls Tryd.prog 12 #[.int .i64 mi, .int .i64 2] W fun e w' => e = .returned (.string xmi) ∧ Below w0.heap.size w0 w')) (xc : ByteArray) (zc : xc.size ≤ 9) (Pc : Hid (∀ W, Below w0.heap.size w0 W → Calls Tryd.prog 12 #[.int .i64 c, .int .i64 2] W fun e w' => e = .returned (.string xc) ∧ Below w0.heap.size w0 w')) (hB : Below w0.heap.size w0 w)
    : Calls Tryd.prog 10 #[.int .i64 ns, .int .i64 0, .bool true] w fun e w' => e = .returned (.string (stampB xY xM xdd xh xmi xc ++ ⟨#[90]⟩)) ∧ Below w0.heap.size w0 w' := by
  have HB := Lib.hid hB
  clear hB
  go_enter Tryd.func10, Tryd.ntmps10
  go_wp2_with (first
    | (go_at_call 11; (first | (with_reducible refine (F1.out _).mono ?_) | (with_reducible refine (F2.out _).mono ?_) | (with_reducible refine (F3.out _).mono ?_)); rintro e w' ⟨rfl, rfl⟩)
    | (go_at_call 12; (with_reducible refine (PY.out _ HB.out).mono ?_); rintro e v0 ⟨rfl, hv0⟩; have B0 := Lib.hid hv0; clear hv0)
    | (go_at_call 12; (with_reducible refine (PM.out _ B0.out).mono ?_); rintro e v1 ⟨rfl, hv1⟩; have B1 := Lib.hid hv1; clear hv1)
    | (go_at_call 12; (with_reducible refine (Pdd.out _ B1.out).mono ?_); rintro e v2 ⟨rfl, hv2⟩; have B2 := Lib.hid hv2; clear hv2)
    | (go_at_call 12; (with_reducible refine (Ph.out _ B2.out).mono ?_); rintro e v3 ⟨rfl, hv3⟩; have B3 := Lib.hid hv3; clear hv3)
    | (go_at_call 12; (with_reducible refine (Pmi.out _ B3.out).mono ?_); rintro e v4 ⟨rfl, hv4⟩; have B4 := Lib.hid hv4; clear hv4)
    | (go_at_call 12; (with_reducible refine (Pc.out _ B4.out).mono ?_); rintro e v5 ⟨rfl, hv5⟩; have B5 := Lib.hid hv5; clear hv5))
  go_ret
  exact ⟨rfl, B5.out⟩

set_option maxRecDepth 100000 in
set_option maxHeartbeats 4000000 in
theorem stamp_fa (ns S F Dd s N E o y d m0 dd M Y h mi c : Int) (bS0 : -4700000000 ≤ S) (bS1 : S ≤ 4700000000) (bF0 : 0 ≤ F) (bF1 : F < 1000000000) (hFp : 0 < F) (bs0 : 0 ≤ s) (bs1 : s < 86400) (bD0 : -100000 ≤ Dd) (bD1 : Dd ≤ 100000) (bE0 : 0 ≤ E) (bE1 : E < 10) (bo0 : 0 ≤ o) (bo1 : o < 146097)
    (by0 : 0 ≤ y) (by1 : y < 400) (bd0 : 0 ≤ d) (bd1 : d < 366) (bm0 : 0 ≤ m0) (bm1 : m0 ≤ 9)
    (e1 : ns - S * 1000000000 = F) (e2 : S - Dd * 86400 = s) (e3 : Dd + 719468 = N) (e4 : N - E * 146097 = o) (ey : (o - o / 1460 + o / 36524 - o / 146096) / 365 = y) (ed : o - (365 * y + y / 4 - y / 100) = d) (em : (5 * d + 2) / 153 = m0) (edd : d - (153 * m0 + 2) / 5 + 1 = dd) (eM : m0 + 3 = M) (eY : y + E * 400 = Y) (eh : s / 3600 = h) (emi : s / 60 % 60 = mi) (ec : s % 60 = c)
    (F1 : Hid (∀ W, Calls Tryd.prog 11 #[.int .i64 ns, .int .i64 1000000000] W fun e w' => e = .returned (.int .i64 S) ∧ W = w')) (F2 : Hid (∀ W, Calls Tryd.prog 11 #[.int .i64 S, .int .i64 86400] W fun e w' => e = .returned (.int .i64 Dd) ∧ W = w')) (F3 : Hid (∀ W, Calls Tryd.prog 11 #[.int .i64 N, .int .i64 146097] W fun e w' => e = .returned (.int .i64 E) ∧ W = w'))
    (w0 w : World) (xY : ByteArray) (zY : xY.size ≤ 9) (PY : Hid (∀ W, Below w0.heap.size w0 W → Calls Tryd.prog 12 #[.int .i64 Y, .int .i64 4] W fun e w' => e = .returned (.string xY) ∧ Below w0.heap.size w0 w')) (xM : ByteArray) (zM : xM.size ≤ 9) (PM : Hid (∀ W, Below w0.heap.size w0 W → Calls Tryd.prog 12 #[.int .i64 M, .int .i64 2] W fun e w' => e = .returned (.string xM) ∧ Below w0.heap.size w0 w')) (xdd : ByteArray) (zdd : xdd.size ≤ 9) (Pdd : Hid (∀ W, Below w0.heap.size w0 W → Calls Tryd.prog 12 #[.int .i64 dd, .int .i64 2] W fun e w' => e = .returned (.string xdd) ∧ Below w0.heap.size w0 w')) (xh : ByteArray) (zh : xh.size ≤ 9) (Ph : Hid (∀ W, Below w0.heap.size w0 W → Calls Tryd.prog 12 #[.int .i64 h, .int .i64 2] W fun e w' => e = .returned (.string xh) ∧ Below w0.heap.size w0 w')) (xmi : ByteArray) (zmi : xmi.size ≤ 9) (Pmi : Hid (∀ W, Below w0.heap.size w0 W → Calls Tryd.prog 12 #[.int .i64 mi, .int .i64 2] W fun e w' => e = .returned (.string xmi) ∧ Below w0.heap.size w0 w')) (xc : ByteArray) (zc : xc.size ≤ 9) (Pc : Hid (∀ W, Below w0.heap.size w0 W → Calls Tryd.prog 12 #[.int .i64 c, .int .i64 2] W fun e w' => e = .returned (.string xc) ∧ Below w0.heap.size w0 w')) (xF : ByteArray) (zF : xF.size ≤ 9) (PF : Hid (∀ W, Below w0.heap.size w0 W → Calls Tryd.prog 12 #[.int .i64 F, .int .i64 9] W fun e w' => e = .returned (.string xF) ∧ Below w0.heap.size w0 w')) (hx : Hid (xF.data.toList = d9 F.toNat)) (hB : Below w0.heap.size w0 w)
    : Calls Tryd.prog 10 #[.int .i64 ns, .int .i64 0, .bool true] w fun e w' => StampF (stampB xY xM xdd xh xmi xc) F.toNat e ∧ Below w0.heap.size w0 w' := by
  have HB := Lib.hid hB
  clear hB
  go_enter Tryd.func10, Tryd.ntmps10
  go_wp2_with (first
    | (go_at_call 11; (first | (with_reducible refine (F1.out _).mono ?_) | (with_reducible refine (F2.out _).mono ?_) | (with_reducible refine (F3.out _).mono ?_)); rintro e w' ⟨rfl, rfl⟩)
    | (go_at_call 12; (with_reducible refine (PY.out _ HB.out).mono ?_); rintro e v0 ⟨rfl, hv0⟩; have B0 := Lib.hid hv0; clear hv0)
    | (go_at_call 12; (with_reducible refine (PM.out _ B0.out).mono ?_); rintro e v1 ⟨rfl, hv1⟩; have B1 := Lib.hid hv1; clear hv1)
    | (go_at_call 12; (with_reducible refine (Pdd.out _ B1.out).mono ?_); rintro e v2 ⟨rfl, hv2⟩; have B2 := Lib.hid hv2; clear hv2)
    | (go_at_call 12; (with_reducible refine (Ph.out _ B2.out).mono ?_); rintro e v3 ⟨rfl, hv3⟩; have B3 := Lib.hid hv3; clear hv3)
    | (go_at_call 12; (with_reducible refine (Pmi.out _ B3.out).mono ?_); rintro e v4 ⟨rfl, hv4⟩; have B4 := Lib.hid hv4; clear hv4)
    | (go_at_call 12; (with_reducible refine (Pc.out _ B4.out).mono ?_); rintro e v5 ⟨rfl, hv5⟩; have B5 := Lib.hid hv5; clear hv5)
    | (go_at_call 12; (with_reducible refine (PF.out _ B5.out).mono ?_); rintro e v6 ⟨rfl, hv6⟩; have B6 := Lib.hid hv6; clear hv6))
  go_loop [17] (fun v => ∃ x : ByteArray, v = .string x ∧ 0 < x.size ∧ x.size ≤ 9 ∧ Hid (Frac F.toNat x.data.toList)) (fun v => szOf v)
  case atStart => exact ⟨xF, rfl, frac_pos (frac_all hx.out) (by omega), zF, Lib.hid (frac_all hx.out)⟩
  case round =>
    obtain ⟨x, rfl, hx0, hx9, HF⟩ := hrel
    obtain ⟨k, c48, x1, hk, hx1, ik, ic⟩ := last_byte x hx0
    have hsz : (x.size : Int) - 1 = k := by omega
    obtain ⟨q, hq⟩ : ∃ q : Int, q = (c48.toNat : Int) := ⟨_, rfl⟩
    rw [← hq] at ik
    have h1k : x1.size = k := by
      have h3 : x.size = x.data.toList.length := by simp
      rw [hx1] at h3
      simp at h3
      omega
    have HL := Lib.hid (And.intro hx1 (And.intro hq (And.intro hk h1k)))
    clear hx1 hk h1k
    by_cases hz : q = 48
    · have hqb : (q == 48) = true := beq_iff_eq.2 hz
      have HZ := Lib.hid (And.intro hq hz)
      clear hq hz
      go_wp2_with fail
      go_round
      case rel =>
        obtain ⟨hx1, hq', hk, h1k⟩ := HL.out
        have h48 : c48 = 48 := by
          have := HZ.out.2
          refine UInt8.toNat_inj.1 ?_
          show _ = 48
          omega
        have hf : Frac F.toNat x1.data.toList := by
          have h1 := HF.out
          rw [hx1, h48] at h1
          exact frac_drop h1
        exact ⟨x1, rfl, frac_pos hf (by omega), by omega, Lib.hid hf⟩
      case measure =>
        obtain ⟨hx1, hq', hk, h1k⟩ := HL.out
        show x1.size < x.size
        omega
    · have hqb : (q == 48) = false := beq_eq_false_iff_ne.2 hz
      clear hq
      go_wp2_with fail
      go_ret
      refine ⟨⟨x, rfl, HF.out, hx0, hx9, ?_⟩, B6.out⟩
      obtain ⟨hx1, hq', _, _⟩ := HL.out
      rw [hx1, List.getLast?_concat]
      intro he
      injection he with he
      rw [he] at hq'
      exact hz hq'

set_option maxRecDepth 100000 in
set_option maxHeartbeats 4000000 in
theorem stamp_fb (ns S F Dd s N E o y d m0 dd M Y h mi c : Int) (bS0 : -4700000000 ≤ S) (bS1 : S ≤ 4700000000) (bF0 : 0 ≤ F) (bF1 : F < 1000000000) (hFp : 0 < F) (bs0 : 0 ≤ s) (bs1 : s < 86400) (bD0 : -100000 ≤ Dd) (bD1 : Dd ≤ 100000) (bE0 : 0 ≤ E) (bE1 : E < 10) (bo0 : 0 ≤ o) (bo1 : o < 146097)
    (by0 : 0 ≤ y) (by1 : y < 400) (bd0 : 0 ≤ d) (bd1 : d < 366) (bm0 : 10 ≤ m0) (bm1 : m0 ≤ 11)
    (e1 : ns - S * 1000000000 = F) (e2 : S - Dd * 86400 = s) (e3 : Dd + 719468 = N) (e4 : N - E * 146097 = o) (ey : (o - o / 1460 + o / 36524 - o / 146096) / 365 = y) (ed : o - (365 * y + y / 4 - y / 100) = d) (em : (5 * d + 2) / 153 = m0) (edd : d - (153 * m0 + 2) / 5 + 1 = dd) (eM : m0 - 9 = M) (eY : y + E * 400 + 1 = Y) (eh : s / 3600 = h) (emi : s / 60 % 60 = mi) (ec : s % 60 = c)
    (F1 : Hid (∀ W, Calls Tryd.prog 11 #[.int .i64 ns, .int .i64 1000000000] W fun e w' => e = .returned (.int .i64 S) ∧ W = w')) (F2 : Hid (∀ W, Calls Tryd.prog 11 #[.int .i64 S, .int .i64 86400] W fun e w' => e = .returned (.int .i64 Dd) ∧ W = w')) (F3 : Hid (∀ W, Calls Tryd.prog 11 #[.int .i64 N, .int .i64 146097] W fun e w' => e = .returned (.int .i64 E) ∧ W = w'))
    (w0 w : World) (xY : ByteArray) (zY : xY.size ≤ 9) (PY : Hid (∀ W, Below w0.heap.size w0 W → Calls Tryd.prog 12 #[.int .i64 Y, .int .i64 4] W fun e w' => e = .returned (.string xY) ∧ Below w0.heap.size w0 w')) (xM : ByteArray) (zM : xM.size ≤ 9) (PM : Hid (∀ W, Below w0.heap.size w0 W → Calls Tryd.prog 12 #[.int .i64 M, .int .i64 2] W fun e w' => e = .returned (.string xM) ∧ Below w0.heap.size w0 w')) (xdd : ByteArray) (zdd : xdd.size ≤ 9) (Pdd : Hid (∀ W, Below w0.heap.size w0 W → Calls Tryd.prog 12 #[.int .i64 dd, .int .i64 2] W fun e w' => e = .returned (.string xdd) ∧ Below w0.heap.size w0 w')) (xh : ByteArray) (zh : xh.size ≤ 9) (Ph : Hid (∀ W, Below w0.heap.size w0 W → Calls Tryd.prog 12 #[.int .i64 h, .int .i64 2] W fun e w' => e = .returned (.string xh) ∧ Below w0.heap.size w0 w')) (xmi : ByteArray) (zmi : xmi.size ≤ 9) (Pmi : Hid (∀ W, Below w0.heap.size w0 W → Calls Tryd.prog 12 #[.int .i64 mi, .int .i64 2] W fun e w' => e = .returned (.string xmi) ∧ Below w0.heap.size w0 w')) (xc : ByteArray) (zc : xc.size ≤ 9) (Pc : Hid (∀ W, Below w0.heap.size w0 W → Calls Tryd.prog 12 #[.int .i64 c, .int .i64 2] W fun e w' => e = .returned (.string xc) ∧ Below w0.heap.size w0 w')) (xF : ByteArray) (zF : xF.size ≤ 9) (PF : Hid (∀ W, Below w0.heap.size w0 W → Calls Tryd.prog 12 #[.int .i64 F, .int .i64 9] W fun e w' => e = .returned (.string xF) ∧ Below w0.heap.size w0 w')) (hx : Hid (xF.data.toList = d9 F.toNat)) (hB : Below w0.heap.size w0 w)
    : Calls Tryd.prog 10 #[.int .i64 ns, .int .i64 0, .bool true] w fun e w' => StampF (stampB xY xM xdd xh xmi xc) F.toNat e ∧ Below w0.heap.size w0 w' := by
  have HB := Lib.hid hB
  clear hB
  go_enter Tryd.func10, Tryd.ntmps10
  go_wp2_with (first
    | (go_at_call 11; (first | (with_reducible refine (F1.out _).mono ?_) | (with_reducible refine (F2.out _).mono ?_) | (with_reducible refine (F3.out _).mono ?_)); rintro e w' ⟨rfl, rfl⟩)
    | (go_at_call 12; (with_reducible refine (PY.out _ HB.out).mono ?_); rintro e v0 ⟨rfl, hv0⟩; have B0 := Lib.hid hv0; clear hv0)
    | (go_at_call 12; (with_reducible refine (PM.out _ B0.out).mono ?_); rintro e v1 ⟨rfl, hv1⟩; have B1 := Lib.hid hv1; clear hv1)
    | (go_at_call 12; (with_reducible refine (Pdd.out _ B1.out).mono ?_); rintro e v2 ⟨rfl, hv2⟩; have B2 := Lib.hid hv2; clear hv2)
    | (go_at_call 12; (with_reducible refine (Ph.out _ B2.out).mono ?_); rintro e v3 ⟨rfl, hv3⟩; have B3 := Lib.hid hv3; clear hv3)
    | (go_at_call 12; (with_reducible refine (Pmi.out _ B3.out).mono ?_); rintro e v4 ⟨rfl, hv4⟩; have B4 := Lib.hid hv4; clear hv4)
    | (go_at_call 12; (with_reducible refine (Pc.out _ B4.out).mono ?_); rintro e v5 ⟨rfl, hv5⟩; have B5 := Lib.hid hv5; clear hv5)
    | (go_at_call 12; (with_reducible refine (PF.out _ B5.out).mono ?_); rintro e v6 ⟨rfl, hv6⟩; have B6 := Lib.hid hv6; clear hv6))
  go_loop [17] (fun v => ∃ x : ByteArray, v = .string x ∧ 0 < x.size ∧ x.size ≤ 9 ∧ Hid (Frac F.toNat x.data.toList)) (fun v => szOf v)
  case atStart => exact ⟨xF, rfl, frac_pos (frac_all hx.out) (by omega), zF, Lib.hid (frac_all hx.out)⟩
  case round =>
    obtain ⟨x, rfl, hx0, hx9, HF⟩ := hrel
    obtain ⟨k, c48, x1, hk, hx1, ik, ic⟩ := last_byte x hx0
    have hsz : (x.size : Int) - 1 = k := by omega
    obtain ⟨q, hq⟩ : ∃ q : Int, q = (c48.toNat : Int) := ⟨_, rfl⟩
    rw [← hq] at ik
    have h1k : x1.size = k := by
      have h3 : x.size = x.data.toList.length := by simp
      rw [hx1] at h3
      simp at h3
      omega
    have HL := Lib.hid (And.intro hx1 (And.intro hq (And.intro hk h1k)))
    clear hx1 hk h1k
    by_cases hz : q = 48
    · have hqb : (q == 48) = true := beq_iff_eq.2 hz
      have HZ := Lib.hid (And.intro hq hz)
      clear hq hz
      go_wp2_with fail
      go_round
      case rel =>
        obtain ⟨hx1, hq', hk, h1k⟩ := HL.out
        have h48 : c48 = 48 := by
          have := HZ.out.2
          refine UInt8.toNat_inj.1 ?_
          show _ = 48
          omega
        have hf : Frac F.toNat x1.data.toList := by
          have h1 := HF.out
          rw [hx1, h48] at h1
          exact frac_drop h1
        exact ⟨x1, rfl, frac_pos hf (by omega), by omega, Lib.hid hf⟩
      case measure =>
        obtain ⟨hx1, hq', hk, h1k⟩ := HL.out
        show x1.size < x.size
        omega
    · have hqb : (q == 48) = false := beq_eq_false_iff_ne.2 hz
      clear hq
      go_wp2_with fail
      go_ret
      refine ⟨⟨x, rfl, HF.out, hx0, hx9, ?_⟩, B6.out⟩
      obtain ⟨hx1, hq', _, _⟩ := HL.out
      rw [hx1, List.getLast?_concat]
      intro he
      injection he with he
      rw [he] at hq'
      exact hz hq'
end Go.Proofs.YtggebombeflmhaaDoor
