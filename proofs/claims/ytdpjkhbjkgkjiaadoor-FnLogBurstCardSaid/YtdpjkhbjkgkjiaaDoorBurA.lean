/- The walks of package time's few steps and of the samplers. -/
import Derived.Test.YtdpjkhbjkgkjiaaDoorMem
import Derived.Test.YtdpjkhbjkgkjiaaDoorKeep
import Derived.Test.YtdpjkhbjkgkjiaaDoorLevP
import Derived.Deep.RegionHeld3
import Derived.Deep.RegionWith
import Derived.Deep.QuietTactic
import Derived.BigQuiet
namespace Go.Proofs.YtdpjkhbjkgkjiaaDoor
open Go.RowKit

abbrev TM (q m : Int) : Value := .agg #[.int .i64 (q + 62135596800), .int .i32 m, .string ⟨#[85, 84, 67]⟩, .int .i64 0]

/-- A moment, laid in a variable of its own. -/
abbrev TB (q m : Int) : Obj := .cells #[.int .i64 (q + 62135596800), .int .i32 m, .string ⟨#[85, 84, 67]⟩, .int .i64 0] 53

set_option maxHeartbeats 400000 in
theorem sec_any (q m : Int) (w : World) : Calls Tryd.prog 47 #[TM q m] w fun e w' => e = .returned (.int .i64 (q + 62135596800)) ∧ w.alloc (TB q m) = w' := by
  go_enter Tryd.func47, Tryd.ntmps47
  go_wp2
  go_ret
  exact ⟨rfl, rfl⟩

set_option maxHeartbeats 400000 in
theorem nsec_any (q m : Int) (w : World) : Calls Tryd.prog 40 #[TM q m] w fun e w' => e = .returned (.int .i32 m) ∧ w.alloc (TB q m) = w' := by
  go_enter Tryd.func40, Tryd.ntmps40
  go_wp2
  go_ret
  exact ⟨rfl, rfl⟩

set_option maxHeartbeats 400000 in
theorem unixSec_any (q m : Int) (hq0 : 0 ≤ q) (hq1 : q ≤ 10000000000) (w : World) : Calls Tryd.prog 39 #[TM q m] w fun e w' => e = .returned (.int .i64 q) ∧ (w.alloc (TB q m)).alloc (TB q m) = w' := by
  go_enter Tryd.func39, Tryd.ntmps39
  go_wp2_with fail
  refine (sec_any q m _).mono ?_
  rintro e w' ⟨rfl, rfl⟩
  go_wp2
  go_ret
  exact ⟨ret_int (by omega), rfl⟩

set_option maxHeartbeats 400000 in
theorem unixNano_any (q m : Int) (hq0 : 0 ≤ q) (hq1 : q ≤ 2000000) (hm0 : 0 ≤ m) (hm1 : m < 1000000000) (w : World) :
    Calls Tryd.prog 29 #[TM q m] w fun e w' => e = .returned (.int .i64 (q * 1000000000 + m)) ∧ Below w.heap.size w w' := by
  have h39 := Lib.hid (fun W => unixSec_any q m hq0 (by omega) W)
  have h40 := Lib.hid (fun W => nsec_any q m W)
  go_enter Tryd.func29, Tryd.ntmps29
  go_wp2
  go_region_held3 (fun w' => w'.cell? ⟨w.heap.size, 0, none⟩ = some (.int .i64 (q + 62135596800)) ∧ w'.cell? ⟨w.heap.size, 1, none⟩ = some (.int .i32 m) ∧ w'.cell? ⟨w.heap.size, 2, none⟩ = some (.string ⟨#[85, 84, 67]⟩) ∧ w'.cell? ⟨w.heap.size, 3, none⟩ = some (.int .i64 0)) (go_keep)
    (first
      | (go_at_call 39; refine (h39.out _).mono ?_; rintro e w' ⟨rfl, rfl⟩)
      | (go_at_call 40; refine (h40.out _).mono ?_; rintro e w' ⟨rfl, rfl⟩))
  go_wp2
  go_ret
  exact ⟨ret_int (by go_arith), by go_grown⟩

theorem ret_tm {a m q n : Int} (h : a = q + 62135596800) (h2 : m = n) : Ending.returned (.agg #[.int .i64 a, .int .i32 m, .string ⟨#[85, 84, 67]⟩, .int .i64 0]) = .returned (TM q n) := by rw [h, h2]

set_option maxHeartbeats 400000 in
theorem unix_small (t : Int) (h0 : 0 ≤ t) (h1 : t < 1000000000) (w : World) :
    Calls Tryd.prog 16 #[.int .i64 0, .int .i64 t] w fun e w' => e = .returned (TM (t / 1000000000) (t % 1000000000)) ∧ Below w.heap.size w w' := by
  go_enter Tryd.func16, Tryd.ntmps16
  go_wp2
  go_returns
  exact ⟨ret_tm (by omega) (by omega), by go_grown⟩

set_option maxHeartbeats 400000 in
theorem unix_great (t : Int) (h0 : 1000000000 ≤ t) (h1 : t ≤ 1125899906842624) (w : World) :
    Calls Tryd.prog 16 #[.int .i64 0, .int .i64 t] w fun e w' => e = .returned (TM (t / 1000000000) (t % 1000000000)) ∧ Below w.heap.size w w' := by
  go_enter Tryd.func16, Tryd.ntmps16
  go_wp2
  go_returns
  exact ⟨ret_tm (by omega) (by omega), by go_grown⟩

theorem unix_any (t : Int) (h0 : 0 ≤ t) (h1 : t ≤ 1125899906842624) (w : World) :
    Calls Tryd.prog 16 #[.int .i64 0, .int .i64 t] w fun e w' => e = .returned (TM (t / 1000000000) (t % 1000000000)) ∧ Below w.heap.size w w' := by
  by_cases h : t < 1000000000
  · exact unix_small t h0 h w
  · exact unix_great t (by omega) h1 w

/-- A BurstSampler. -/
abbrev BS (b p : Int) (nx : Value) (q m c r : Int) : Array Value := #[.int .u32 b, .int .i64 p, nx, .int .i64 (q + 62135596800), .int .i32 m, .string ⟨#[85, 84, 67]⟩, .int .i64 0, .int .u32 c, .int .i64 r]

set_option maxHeartbeats 400000 in
theorem inc_new (g : Nat) (b p : Int) (nx : Value) (q m c r : Int) (hq0 : 0 ≤ q) (hq1 : q ≤ 2000000) (hm0 : 0 ≤ m) (hm1 : m < 1000000000) (hp0 : 0 ≤ p) (hp1 : p ≤ 1099511627776) (hge : r ≤ q * 1000000000 + m) (W : World)
    (hb : Whole W g 55 (BS b p nx q m c r)) :
    Calls Tryd.prog 23 #[.pointer (some ⟨g, 0, none⟩)] W fun e w' => e = .returned (.int .u32 1) ∧ Whole w' g 55 (BS b p nx q m 1 (q * 1000000000 + m + p)) ∧ Keeps (· = g) W w' := by
  have c1 : W.cell? ⟨g, 1, none⟩ = some (.int .i64 p) := hb.cell 1
  have c3 : W.cell? ⟨g, 3, none⟩ = some (.int .i64 (q + 62135596800)) := hb.cell 3
  have c4 : W.cell? ⟨g, 4, none⟩ = some (.int .i32 m) := hb.cell 4
  have c5 : W.cell? ⟨g, 5, none⟩ = some (.string ⟨#[85, 84, 67]⟩) := hb.cell 5
  have c6 : W.cell? ⟨g, 6, none⟩ = some (.int .i64 0) := hb.cell 6
  have c7 : W.cell? ⟨g, 7, none⟩ = some (.int .u32 c) := hb.cell 7
  have c8 : W.cell? ⟨g, 8, none⟩ = some (.int .i64 r) := hb.cell 8
  have HB := Lib.hid hb
  clear hb
  go_enter Tryd.func23, Tryd.ntmps23
  go_wp2_with fail
  refine (unixNano_any q m hq0 hq1 hm0 hm1 W).mono ?_
  rintro e w1 ⟨rfl, hw1⟩
  have hb1 := HB.out.below hw1 HB.out.lt
  have d1 : w1.cell? ⟨g, 1, none⟩ = some (.int .i64 p) := hb1.cell 1
  have d7 : w1.cell? ⟨g, 7, none⟩ = some (.int .u32 c) := hb1.cell 7
  have d8 : w1.cell? ⟨g, 8, none⟩ = some (.int .i64 r) := hb1.cell 8
  have f7 := hb1.frozen 7
  have f8 := hb1.frozen 8
  have H1 := Lib.hid hb1
  have K1 := Lib.hid (Keeps.of_below hw1 (· = g))
  clear c1 c3 c4 c5 c6 c7 c8 hb1 hw1
  go_wp2
  go_ret
  exact ⟨rfl, (H1.out.set 7 _).set 8 _, (K1.out.set (.inl rfl) _).set (.inl rfl) _⟩

set_option maxHeartbeats 400000 in
theorem inc_old (g : Nat) (b p : Int) (nx : Value) (q m c r : Int) (hq0 : 0 ≤ q) (hq1 : q ≤ 2000000) (hm0 : 0 ≤ m) (hm1 : m < 1000000000) (hc0 : 0 ≤ c) (hc1 : c ≤ 1000) (hge : q * 1000000000 + m < r) (W : World)
    (hb : Whole W g 55 (BS b p nx q m c r)) :
    Calls Tryd.prog 23 #[.pointer (some ⟨g, 0, none⟩)] W fun e w' => e = .returned (.int .u32 (c + 1)) ∧ Whole w' g 55 (BS b p nx q m (c + 1) r) ∧ Keeps (· = g) W w' := by
  have c1 : W.cell? ⟨g, 1, none⟩ = some (.int .i64 p) := hb.cell 1
  have c3 : W.cell? ⟨g, 3, none⟩ = some (.int .i64 (q + 62135596800)) := hb.cell 3
  have c4 : W.cell? ⟨g, 4, none⟩ = some (.int .i32 m) := hb.cell 4
  have c5 : W.cell? ⟨g, 5, none⟩ = some (.string ⟨#[85, 84, 67]⟩) := hb.cell 5
  have c6 : W.cell? ⟨g, 6, none⟩ = some (.int .i64 0) := hb.cell 6
  have c7 : W.cell? ⟨g, 7, none⟩ = some (.int .u32 c) := hb.cell 7
  have c8 : W.cell? ⟨g, 8, none⟩ = some (.int .i64 r) := hb.cell 8
  have HB := Lib.hid hb
  clear hb
  go_enter Tryd.func23, Tryd.ntmps23
  go_wp2_with fail
  refine (unixNano_any q m hq0 hq1 hm0 hm1 W).mono ?_
  rintro e w1 ⟨rfl, hw1⟩
  have hb1 := HB.out.below hw1 HB.out.lt
  have d1 : w1.cell? ⟨g, 1, none⟩ = some (.int .i64 p) := hb1.cell 1
  have d7 : w1.cell? ⟨g, 7, none⟩ = some (.int .u32 c) := hb1.cell 7
  have d8 : w1.cell? ⟨g, 8, none⟩ = some (.int .i64 r) := hb1.cell 8
  have f7 := hb1.frozen 7
  have f8 := hb1.frozen 8
  have H1 := Lib.hid hb1
  have K1 := Lib.hid (Keeps.of_below hw1 (· = g))
  clear c1 c3 c4 c5 c6 c7 c8 hb1 hw1
  go_wp2
  go_ret
  exact ⟨rfl, H1.out.set 7 _, K1.out.set (.inl rfl) _⟩

/-- What a BasicSampler of two or more does with its next event. -/
abbrev SB (n k : Int) : Array Value := #[.int .u32 n, .int .u32 k]

set_option maxHeartbeats 400000 in
theorem basic_one (g : Nat) (k l : Int) (W : World) (hb : Whole W g 58 (SB 1 k)) :
    Calls Tryd.prog 74 #[.pointer (some ⟨g, 0, none⟩), .int .i8 l] W fun e w' => e = .returned (.bool true) ∧ Whole w' g 58 (SB 1 k) ∧ Keeps (· = g) W w' := by
  have c0 : W.cell? ⟨g, 0, none⟩ = some (.int .u32 1) := hb.cell 0
  have HB := Lib.hid hb
  clear hb
  go_enter Tryd.func74, Tryd.ntmps74
  go_wp2
  go_ret
  exact ⟨rfl, HB.out, Keeps.refl _ _⟩

set_option maxHeartbeats 400000 in
theorem basic_more (g : Nat) (n k l : Int) (hn : 2 ≤ n) (hn' : n ≤ 20) (hk : 0 ≤ k) (hk' : k ≤ 1000) (W : World) (hb : Whole W g 58 (SB n k)) :
    Calls Tryd.prog 74 #[.pointer (some ⟨g, 0, none⟩), .int .i8 l] W fun e w' => e = .returned (.bool ((k + 1) % n == 1)) ∧ Whole w' g 58 (SB n (k + 1)) ∧ Keeps (· = g) W w' := by
  have c0 : W.cell? ⟨g, 0, none⟩ = some (.int .u32 n) := hb.cell 0
  have c1 : W.cell? ⟨g, 1, none⟩ = some (.int .u32 k) := hb.cell 1
  have f1 := hb.frozen 1
  have hn0 : (n == 0) = false := by simp; omega
  have hn1 : (n == 1) = false := by simp; omega
  have HB := Lib.hid hb
  clear hb
  go_enter Tryd.func74, Tryd.ntmps74
  go_wp2
  go_ret
  exact ⟨rfl, HB.out.set 1 _, (Keeps.refl (· = g) W).set (p := ⟨g, 1, none⟩) (.inl rfl) _⟩

set_option maxHeartbeats 800000 in
theorem sample_pass (g : Nat) (b p : Int) (nx : Value) (q m c r c' r' : Int) (hb0 : 0 < b) (hp0 : 0 < p) (hle : c' ≤ b) (W : World) (hb : Whole W g 55 (BS b p nx q m c r))
    (hinc : ∀ n, Calls Tryd.prog 23 #[.pointer (some ⟨g, 0, none⟩)] (W.drewN n) fun e w' => e = .returned (.int .u32 c') ∧ Whole w' g 55 (BS b p nx q m c' r') ∧ Keeps (· = g) (W.drewN n) w') :
    Calls Tryd.prog 17 #[.pointer (some ⟨g, 0, none⟩), .int .i8 1] W fun e w' => e = .returned (.bool true) ∧ Whole w' g 55 (BS b p nx q m c' r') ∧ Keeps (· = g) W w' := by
  have c0 : W.cell? ⟨g, 0, none⟩ = some (.int .u32 b) := hb.cell 0
  have c1 : W.cell? ⟨g, 1, none⟩ = some (.int .i64 p) := hb.cell 1
  have HB := Lib.hid hb
  have HI := Lib.hid hinc
  clear hb hinc
  go_enter Tryd.func17, Tryd.ntmps17
  go_wp2_with fail
  go_region_held3 (fun w' => w'.cell? ⟨g, 0, none⟩ = some (.int .u32 b)) (go_keep)
    (first
      | (go_at_call 23; refine (HI.out 1).mono ?_; rintro e w' ⟨rfl, hw, hk⟩; have e0 : w'.cell? ⟨g, 0, none⟩ = some (.int .u32 b) := hw.cell 0))
  go_wp2
  go_ret
  exact ⟨rfl, hw, hk.of_drewN⟩

set_option maxHeartbeats 800000 in
theorem sample_nil (g : Nat) (b p : Int) (q m c r c' r' : Int) (hb0 : 0 < b) (hp0 : 0 < p) (hle : b < c') (W : World) (hb : Whole W g 55 (BS b p .nilIface q m c r))
    (hinc : ∀ n, Calls Tryd.prog 23 #[.pointer (some ⟨g, 0, none⟩)] (W.drewN n) fun e w' => e = .returned (.int .u32 c') ∧ Whole w' g 55 (BS b p .nilIface q m c' r') ∧ Keeps (· = g) (W.drewN n) w') :
    Calls Tryd.prog 17 #[.pointer (some ⟨g, 0, none⟩), .int .i8 1] W fun e w' => e = .returned (.bool false) ∧ Whole w' g 55 (BS b p .nilIface q m c' r') ∧ Keeps (· = g) W w' := by
  have c0 : W.cell? ⟨g, 0, none⟩ = some (.int .u32 b) := hb.cell 0
  have c1 : W.cell? ⟨g, 1, none⟩ = some (.int .i64 p) := hb.cell 1
  have HB := Lib.hid hb
  have HI := Lib.hid hinc
  clear hb hinc
  go_enter Tryd.func17, Tryd.ntmps17
  go_wp2_with fail
  go_region_held3 (fun w' => w'.cell? ⟨g, 0, none⟩ = some (.int .u32 b)) (go_keep)
    (first
      | (go_at_call 23; refine (HI.out 1).mono ?_; rintro e w' ⟨rfl, hw, hk⟩; have e0 : w'.cell? ⟨g, 0, none⟩ = some (.int .u32 b) := hw.cell 0))
  have e2 : w'.cell? ⟨g, 2, none⟩ = some .nilIface := hw.cell 2
  go_wp2
  go_ret
  exact ⟨rfl, hw, hk.of_drewN⟩

set_option maxHeartbeats 800000 in
theorem sample_next (g g2 : Nat) (cs cs' : Array Value) (v : Bool) (b p : Int) (q m c r c' r' : Int) (hb0 : 0 < b) (hp0 : 0 < p) (hle : b < c') (W : World) (hb : Whole W g 55 (BS b p (.iface 56 (.pointer (some ⟨g2, 0, none⟩))) q m c r)) (hb2 : Whole W g2 58 cs)
    (hinc : ∀ n, Calls Tryd.prog 23 #[.pointer (some ⟨g, 0, none⟩)] (W.drewN n) fun e w' => e = .returned (.int .u32 c') ∧ Whole w' g 55 (BS b p (.iface 56 (.pointer (some ⟨g2, 0, none⟩))) q m c' r') ∧ Keeps (· = g) (W.drewN n) w')
    (hnext : ∀ W1, Whole W1 g2 58 cs → Calls Tryd.prog 74 #[.pointer (some ⟨g2, 0, none⟩), .int .i8 1] W1 fun e w' => e = .returned (.bool v) ∧ Whole w' g2 58 cs' ∧ Keeps (· = g2) W1 w') :
    Calls Tryd.prog 17 #[.pointer (some ⟨g, 0, none⟩), .int .i8 1] W fun e w' => e = .returned (.bool v) ∧ Whole w' g 55 (BS b p (.iface 56 (.pointer (some ⟨g2, 0, none⟩))) q m c' r') ∧ Whole w' g2 58 cs' ∧ Keeps (fun k => k = g ∨ k = g2) W w' := by
  have c0 : W.cell? ⟨g, 0, none⟩ = some (.int .u32 b) := hb.cell 0
  have c1 : W.cell? ⟨g, 1, none⟩ = some (.int .i64 p) := hb.cell 1
  have hne : g ≠ g2 := hb.ne hb2 (by decide)
  have HB := Lib.hid hb
  have HB2 := Lib.hid hb2
  have HI := Lib.hid hinc
  have HN := Lib.hid hnext
  have HNE := Lib.hid hne
  clear hb hb2 hinc hnext hne
  go_enter Tryd.func17, Tryd.ntmps17
  go_wp2_with fail
  go_region_held3 (fun w' => w'.cell? ⟨g, 0, none⟩ = some (.int .u32 b)) (go_keep)
    (first
      | (go_at_call 23; refine (HI.out 1).mono ?_; rintro e w' ⟨rfl, hw, hk⟩; have e0 : w'.cell? ⟨g, 0, none⟩ = some (.int .u32 b) := hw.cell 0))
  have e2 : w'.cell? ⟨g, 2, none⟩ = some (.iface 56 (.pointer (some ⟨g2, 0, none⟩))) := hw.cell 2
  have hb2 : Whole w' g2 58 cs := HB2.out.keep hk.of_drewN (fun e => HNE.out e.symm)
  have HW := Lib.hid hw
  have HK := Lib.hid hk
  have HB3 := Lib.hid hb2
  clear hw hk hb2
  go_wp2_with (first | (go_at_call 74; refine (HN.out _ HB3.out).mono ?_; rintro e w2 ⟨rfl, hw2, hk2⟩))
  go_ret
  exact ⟨rfl, HW.out.keep hk2 HNE.out, hw2, (HK.out.of_drewN.mono fun k h => .inl h).trans (hk2.mono fun k h => .inr h)⟩
end Go.Proofs.YtdpjkhbjkgkjiaaDoor
