/- The tables of package time, and the names out of them. -/
import Derived.Test.YtggebombeflmhaaDoorLayK
import Derived.Test.YtggebombeflmhaaDoorLayS
import Derived.Test.YtggebombeflmhaaDoorLevP
import Derived.Deep.DeepCutAuto
namespace Go.Proofs.YtggebombeflmhaaDoor
open Go.RowKit

def monName : Nat → List UInt8
  | 0 => [74, 97, 110, 117, 97, 114, 121]
  | 1 => [70, 101, 98, 114, 117, 97, 114, 121]
  | 2 => [77, 97, 114, 99, 104]
  | 3 => [65, 112, 114, 105, 108]
  | 4 => [77, 97, 121]
  | 5 => [74, 117, 110, 101]
  | 6 => [74, 117, 108, 121]
  | 7 => [65, 117, 103, 117, 115, 116]
  | 8 => [83, 101, 112, 116, 101, 109, 98, 101, 114]
  | 9 => [79, 99, 116, 111, 98, 101, 114]
  | 10 => [78, 111, 118, 101, 109, 98, 101, 114]
  | _ => [68, 101, 99, 101, 109, 98, 101, 114]
def dayName : Nat → List UInt8
  | 0 => [83, 117, 110, 100, 97, 121]
  | 1 => [77, 111, 110, 100, 97, 121]
  | 2 => [84, 117, 101, 115, 100, 97, 121]
  | 3 => [87, 101, 100, 110, 101, 115, 100, 97, 121]
  | 4 => [84, 104, 117, 114, 115, 100, 97, 121]
  | 5 => [70, 114, 105, 100, 97, 121]
  | _ => [83, 97, 116, 117, 114, 100, 97, 121]
def stdTab : Nat → Int
  | 0 => 260
  | 1 => 265
  | 2 => 1038
  | 3 => 1040
  | 4 => 1042
  | _ => 276

/-- A variable (block g) holds a slice of n texts. -/
def Names (w : World) (g n : Nat) (nm : Nat → List UInt8) : Prop :=
  ∃ b off c, w.cell? ⟨g, 0, none⟩ = some (.slice (some ⟨b, off, none⟩) n c) ∧ g < w.heap.size ∧ b < w.heap.size ∧ n ≤ c ∧ ∀ i, i < n → w.cell? ⟨b, off + i, none⟩ = some (.string ⟨(nm i).toArray⟩)
/-- The three tables as the program's text lays them. -/
structure Tabs (w : World) : Prop where
  pos : 0 < w.heap.size
  std : ∀ i, i < 6 → w.cell? ⟨0, i, none⟩ = some (.int .i64 (stdTab i))
  mon : Names w 1 12 monName
  day : Names w 2 7 dayName
theorem Names.below {w0 w : World} {g n : Nat} {nm : Nat → List UInt8} (h : Names w0 g n nm) (hb : Below w0.heap.size w0 w) : Names w g n nm := by
  obtain ⟨b, off, c, h1, hg, hbb, hc, h2⟩ := h
  exact ⟨b, off, c, (hb.cell (p := ⟨g, 0, none⟩) hg).trans h1, Nat.lt_of_lt_of_le hg hb.size, Nat.lt_of_lt_of_le hbb hb.size, hc, fun i hi => (hb.cell (p := ⟨b, off + i, none⟩) hbb).trans (h2 i hi)⟩
theorem Tabs.below {w0 w : World} (h : Tabs w0) (hb : Below w0.heap.size w0 w) : Tabs w :=
  ⟨Nat.lt_of_lt_of_le h.pos hb.size, fun i hi => (hb.cell (p := ⟨0, i, none⟩) h.pos).trans (h.std i hi), h.mon.below hb, h.day.below hb⟩

set_option maxHeartbeats 1000000 in
theorem month_str (k : Nat) (hk : k < 12) (w : World) (hT : Tabs w) : Calls Tryd.prog 37 #[.int .i64 ((k : Int) + 1)] w fun e w' => e = .returned (.string ⟨(monName k).toArray⟩) ∧ w = w' := by
  obtain ⟨b, off, c, h1, _, _, hc, h2⟩ := hT.mon
  have h3 := h2 k hk
  clear h2 hT
  have : k = 0 ∨ k = 1 ∨ k = 2 ∨ k = 3 ∨ k = 4 ∨ k = 5 ∨ k = 6 ∨ k = 7 ∨ k = 8 ∨ k = 9 ∨ k = 10 ∨ k = 11 := by omega
  rcases this with rfl | rfl | rfl | rfl | rfl | rfl | rfl | rfl | rfl | rfl | rfl | rfl
  all_goals
    (try rw [Nat.add_zero] at h3)
    go_enter Tryd.func37, Tryd.ntmps37
    go_wp2
    go_ret
    exact ⟨rfl, rfl⟩
set_option maxHeartbeats 1000000 in
theorem day_str (k : Nat) (hk : k < 7) (w : World) (hT : Tabs w) : Calls Tryd.prog 39 #[.int .i64 (k : Int)] w fun e w' => e = .returned (.string ⟨(dayName k).toArray⟩) ∧ w = w' := by
  obtain ⟨b, off, c, h1, _, _, hc, h2⟩ := hT.day
  have h3 := h2 k hk
  clear h2 hT
  have : k = 0 ∨ k = 1 ∨ k = 2 ∨ k = 3 ∨ k = 4 ∨ k = 5 ∨ k = 6 := by omega
  rcases this with rfl | rfl | rfl | rfl | rfl | rfl | rfl
  all_goals
    (try rw [Nat.add_zero] at h3)
    go_enter Tryd.func39, Tryd.ntmps39
    go_wp2
    go_ret
    exact ⟨rfl, rfl⟩
end Go.Proofs.YtggebombeflmhaaDoor
