/- A logger's event. -/
import Derived.Test.YtpenbgiobeebiaaGreatDoorPasG
namespace Go.Proofs.YtpenbgiobeebiaaGreatDoor
open Go.RowKit

theorem Below.of_drew {B : Nat} {w w' : World} (h : Below B w.drew w') : Below B w w' := ⟨h.os, h.tape, h.output, h.size, h.block⟩
theorem adds_first (g k : Nat) (m M : List UInt8) (t : ByteArray) (hM : [34] ++ m ++ [34] ++ [58] = M) (hm : t.data.toList = m) (hk : m.length = k) (hp : PlainStr t) (hf : k + 4 ≤ 500) : Adds 112 g 1 (k + 3) [123] M t := by
  intro W hB
  refine (key_first g 0 k [] m M t W hM hB rfl hm hk hp (by omega)).mono ?_
  rintro e w' ⟨rfl, h1, h2⟩
  refine ⟨?_, h1, h2⟩
  have : M.length = k + 3 := by rw [← hM]; simp [hk]
  rw [this]
theorem adds_next (g n k : Nat) (l m M : List UInt8) (c : UInt8) (t : ByteArray) (hM : [44] ++ ([34] ++ m ++ [34]) ++ [58] = M) (hc : c ≠ 123) (hn : l.length = n) (hm : t.data.toList = m) (hk : m.length = k) (hp : PlainStr t) (hf : n + k + 5 ≤ 500) : Adds 112 g (n + 1) (k + 4) (l ++ [c]) M t := by
  intro W hB
  refine (key_next g n k l m M c t W hM hB hc hn hm hk hp hf).mono ?_
  rintro e w' ⟨rfl, h1, h2⟩
  refine ⟨?_, h1, h2⟩
  have : M.length = k + 4 := by rw [← hM]; simp [hk]
  rw [this]
theorem adds_str (g n k : Nat) (l m M : List UInt8) (t : ByteArray) (hM : [34] ++ m ++ [34] = M) (hn : l.length = n) (hm : t.data.toList = m) (hk : m.length = k) (hp : PlainStr t) (hf : n + k + 2 ≤ 500) : Adds 117 g n (k + 2) l M t := by
  intro W hB
  refine (string_any g n k l m M t W hM hB hn hm hk hp hf).mono ?_
  rintro e w' ⟨rfl, h1, h2⟩
  refine ⟨?_, h1, h2⟩
  have : M.length = k + 2 := by rw [← hM]; simp [hk]
  rw [this]

/-- A level's name. -/
theorem lname_ok (ev : Int) (h1 : -1 ≤ ev) (h2 : ev ≤ 5) : PlainStr (lname ev) ∧ (lname ev).data.toList.length ≤ 5 := by
  have : ev = -1 ∨ ev = 0 ∨ ev = 1 ∨ ev = 2 ∨ ev = 3 ∨ ev = 4 ∨ ev = 5 := by omega
  rcases this with rfl | rfl | rfl | rfl | rfl | rfl | rfl <;> (unfold PlainStr; decide +kernel)
set_option maxHeartbeats 400000 in
theorem level_text (ev : Int) (h1 : -1 ≤ ev) (h2 : ev ≤ 5) (w : World) :
    Calls Tryz.prog 23 #[.int .i8 ev] w fun e w' => e = .returned (.string (lname ev)) ∧ w = w' := by
  have : ev = -1 ∨ ev = 0 ∨ ev = 1 ∨ ev = 2 ∨ ev = 3 ∨ ev = 4 ∨ ev = 5 := by omega
  rcases this with rfl | rfl | rfl | rfl | rfl | rfl | rfl
  all_goals
    go_enter Tryz.func23, Tryz.ntmps23
    go_wp2
    go_ret
    exact ⟨rfl, rfl⟩

/-- A logger. -/
def LogAt (w : World) (G : Nat) (lv : Int) (C L : Nat) : Prop := Whole w G 48 #[.iface 64 (adV L), .int .i8 lv, .nilIface, .slice none 0 0, .slice none 0 0, .bool false, .pointer (some ⟨C, 0, none⟩)]

set_option maxRecDepth 100000 in
theorem disabled_no (G C L : Nat) (lv : Int) (w : World) (h : LogAt w G lv C L) (h7 : lv ≠ 7) :
    Calls Tryz.prog 32 #[.pointer (some ⟨G, 0, none⟩)] w fun e w' => e = .returned (.bool false) ∧ w = w' := by
  have g0 : w.cell? ⟨G, 0, none⟩ = some (.iface 64 (adV L)) := Whole.cell h 0
  have g1 : w.cell? ⟨G, 1, none⟩ = some (.int .i8 lv) := Whole.cell h 1
  have hd : (lv == 7) = false := by simpa using h7
  clear h
  go_enter Tryz.func32, Tryz.ntmps32
  go_wp2_with fail
  go_returns
  exact ⟨by simp, rfl⟩

set_option maxRecDepth 100000 in
theorem should_yes (G C L : Nat) (lv gl ev : Int) (w : World) (h : LogAt w G lv C L) (hC : ConfAt w C gl) (h7 : lv ≠ 7) (h1 : lv ≤ ev) (h2 : gl ≤ ev) :
    Calls Tryz.prog 24 #[.pointer (some ⟨G, 0, none⟩), .int .i8 ev] w fun e w' => e = .returned (.bool true) ∧ w = w' := by
  have c32 := disabled_no G C L lv w h h7
  have g1 : w.cell? ⟨G, 1, none⟩ = some (.int .i8 lv) := Whole.cell h 1
  have g2 : w.cell? ⟨G, 2, none⟩ = some .nilIface := Whole.cell h 2
  have g6 : w.cell? ⟨G, 6, none⟩ = some (.pointer (some ⟨C, 0, none⟩)) := Whole.cell h 6
  obtain ⟨cs, k1, k2, k3, k4, k5, k6⟩ := hC
  have c9 : w.cell? ⟨C, 9, none⟩ = some (.int .i8 gl) := by rw [k1.cell, k4]
  have hd1 : decide (ev < lv) = false := by simpa using h1
  have hd2 : decide (ev < gl) = false := by simpa using h2
  have C32 := Lib.hid c32
  clear h k1 k2 k3 k4 k5 k6 c32
  go_enter Tryz.func24, Tryz.ntmps24
  go_wp2_with ((go_at_call 32; refine C32.out.mono ?_; rintro e w1 ⟨rfl, rfl⟩))
  go_returns
  exact ⟨rfl, rfl⟩
set_option maxRecDepth 100000 in
theorem should_no (G C L : Nat) (lv gl ev : Int) (w : World) (h : LogAt w G lv C L) (hC : ConfAt w C gl) (h7 : lv ≠ 7) (hno : ¬ (lv ≤ ev ∧ gl ≤ ev)) :
    Calls Tryz.prog 24 #[.pointer (some ⟨G, 0, none⟩), .int .i8 ev] w fun e w' => e = .returned (.bool false) ∧ w = w' := by
  have c32 := disabled_no G C L lv w h h7
  have g1 : w.cell? ⟨G, 1, none⟩ = some (.int .i8 lv) := Whole.cell h 1
  have g2 : w.cell? ⟨G, 2, none⟩ = some .nilIface := Whole.cell h 2
  have g6 : w.cell? ⟨G, 6, none⟩ = some (.pointer (some ⟨C, 0, none⟩)) := Whole.cell h 6
  obtain ⟨cs, k1, k2, k3, k4, k5, k6⟩ := hC
  have c9 : w.cell? ⟨C, 9, none⟩ = some (.int .i8 gl) := by rw [k1.cell, k4]
  have C32 := Lib.hid c32
  clear h k1 k2 k3 k4 k5 k6 c32
  by_cases hc : ev < lv
  · have hd1 : decide (ev < lv) = true := by simpa using hc
    clear hno
    go_enter Tryz.func24, Tryz.ntmps24
    go_wp2_with ((go_at_call 32; refine C32.out.mono ?_; rintro e w1 ⟨rfl, rfl⟩))
    go_returns
    exact ⟨rfl, rfl⟩
  · have hd1 : decide (ev < lv) = false := by simpa using hc
    have hc2 : ev < gl := by omega
    have hd2 : decide (ev < gl) = true := by simpa using hc2
    clear hno
    go_enter Tryz.func24, Tryz.ntmps24
    go_wp2_with ((go_at_call 32; refine C32.out.mono ?_; rintro e w1 ⟨rfl, rfl⟩))
    go_returns
    exact ⟨rfl, rfl⟩
end Go.Proofs.YtpenbgiobeebiaaGreatDoor
