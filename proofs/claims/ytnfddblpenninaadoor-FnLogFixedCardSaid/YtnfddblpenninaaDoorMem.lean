/- What bytes a block of the call's own holds, kept over stores and later worlds. -/
import Derived.Test.YtnfddblpenninaaDoorProg
import Derived.WalkKit
import Derived.WalkSpells
import Derived.WalkLawsBesides
import Derived.WalkSmall
import Derived.Handy
import Derived.Lib.Hide
import Derived.Lib.SmallJoins
import Derived.Lib.SlBytesRow
namespace Go.Proofs.YtnfddblpenninaaDoor
open Go.RowKit

/-- The first cells of block g hold the bytes l, and may be written. -/
def BB (w : World) (g : Nat) (l : List UInt8) : Prop :=
  g < w.heap.size ∧ (∀ i (h : i < l.length), w.cell? ⟨g, i, none⟩ = some (.int .u8 (l[i].toNat : Int))) ∧ ∀ i, i < l.length → w.frozen? ⟨g, i, none⟩ = false

theorem BB.cell {w : World} {g : Nat} {l : List UInt8} (h : BB w g l) (i : Nat) (hi : i < l.length) : w.cell? ⟨g, i, none⟩ = some (.int .u8 (l[i].toNat : Int)) := h.2.1 i hi
theorem BB.frozen {w : World} {g : Nat} {l : List UInt8} (h : BB w g l) (i : Nat) (hi : i < l.length) : w.frozen? ⟨g, i, none⟩ = false := h.2.2 i hi

theorem BB.below {w w' : World} {B g : Nat} {l : List UInt8} (h : BB w g l) (hb : Below B w w') (hg : g < B) : BB w' g l :=
  ⟨Nat.lt_of_lt_of_le h.1 hb.size, fun i hi => (hb.cell (p := ⟨g, i, none⟩) hg).trans (h.2.1 i hi), fun i hi => (hb.frozen (p := ⟨g, i, none⟩) hg).trans (h.2.2 i hi)⟩

theorem BB.set {w : World} {g : Nat} {l : List UInt8} (h : BB w g l) (k : Nat) (b : UInt8) (v : Int) (hv : v = (b.toNat : Int)) (hk : k < l.length) : BB (w.setCell ⟨g, k, none⟩ (.int .u8 v)) g (l.set k b) := by
  subst hv
  refine ⟨?_, fun i hi => ?_, fun i hi => ?_⟩
  · have := h.1
    simpa [World.setCell] using this
  · have hi' : i < l.length := by simpa using hi
    by_cases hik : i = k
    · subst hik
      rw [World.cell?_setCell_same (h := h.2.1 i hi')]
      simp
    · rw [World.cell?_setCell_other w _ _ _ (fun e => hik (by injection e; omega))]
      rw [h.2.1 i hi']
      rw [List.getElem_set_ne (fun e => hik e.symm)]
  · have hi' : i < l.length := by simpa using hi
    have := h.2.2 i hi'
    simpa using this

theorem BB.conv (W : World) (s : ByteArray) : BB (Lib.bytesWorld W 5 s) W.heap.size s.data.toList := by
  refine ⟨by rw [Lib.bytesWorld_size]; omega, fun i hi => ?_, fun i hi => ?_⟩
  · have hs : i < s.size := by simpa using hi
    rw [Lib.bytesWorld_cell W 5 s i hs]
    congr 2
    simp [hs]
  · have hs : i < s.size := by simpa using hi
    have := Lib.bytesWorld_at_new W 5 s
    have hz : i < (Lib.bytesCells W 5 s).size := by
      unfold Lib.bytesCells
      have : s.data.size = s.size := rfl
      simp
      omega
    simp [World.frozen?, this]
    omega

theorem conv_bytes (s : ByteArray) (W : World) : (convert 9 45 (.string s)).run Tryd.prog W = .ok (.slice (some ⟨W.heap.size, 0, none⟩) s.size (grownCap W s.size 0 5)) (Lib.bytesWorld W 5 s) :=
  Lib.run_convert_string_bytes W 9 45 5 s Tryd.underlying9 Tryd.underlying45 Tryd.underlying5

theorem conv_string {W : World} {g : Nat} {l : List UInt8} (h : BB W g l) (n cap : Nat) (hn : l.length = n) : (convert 45 9 (.slice (some ⟨g, 0, none⟩) n cap)).run Tryd.prog W = .ok (.string ⟨l.toArray⟩) W := by
  have hz : (⟨l.toArray⟩ : ByteArray).size = n := by show l.toArray.size = n; simpa using hn
  have := Lib.run_convert_whole (P := Tryd.prog) W 45 5 9 Tryd.underlying45 Tryd.underlying5 Tryd.underlying9 g 0 ⟨l.toArray⟩ (fun i hi => by
    have hi' : i < l.length := by rw [hz] at hi; omega
    have := h.2.1 i hi'
    rw [Nat.zero_add, this]
    rfl) cap
  rw [hz] at this
  exact this

end Go.Proofs.YtnfddblpenninaaDoor
