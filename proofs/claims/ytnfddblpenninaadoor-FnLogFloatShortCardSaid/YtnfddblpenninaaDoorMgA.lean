/- What bytes a block of the call's own holds, kept over stores and later worlds. -/
import Derived.Test.YtnfddblpenninaaDoorProg
import Derived.WalkKit
import Derived.WalkSpells
import Derived.WalkLawsBesides
import Derived.WalkSmall
import Derived.Handy
import Derived.Lib.Hide
import Derived.Lib.SmallJoins
import Derived.Lib.SlBytesRow
namespace Go.Proofs.YtnfddblpenninaaDoor
open Go.RowKit

/-- The first cells of block g hold the bytes l, and may be written. -/
def BB (w : World) (g : Nat) (l : List UInt8) : Prop :=
  g < w.heap.size ∧ (∀ i (h : i < l.length), w.cell? ⟨g, i, none⟩ = some (.int .u8 (l[i].toNat : Int))) ∧ ∀ i, i < l.length → w.frozen? ⟨g, i, none⟩ = false

theorem BB.cell {w : World} {g : Nat} {l : List UInt8} (h : BB w g l) (i : Nat) (hi : i < l.length) : w.cell? ⟨g, i, none⟩ = some (.int .u8 (l[i].toNat : Int)) := h.2.1 i hi
theorem BB.frozen {w : World} {g : Nat} {l : List UInt8} (h : BB w g l) (i : Nat) (hi : i < l.length) : w.frozen? ⟨g, i, none⟩ = false := h.2.2 i hi

theorem BB.below {w w' : World} {B g : Nat} {l : List UInt8} (h : BB w g l) (hb : Below B w w') (hg : g < B) : BB w' g l :=
  ⟨Nat.lt_of_lt_of_le h.1 hb.size, fun i hi => (hb.cell (p := ⟨g, i, none⟩) hg).trans (h.2.1 i hi), fun i hi => (hb.frozen (p := ⟨g, i, none⟩) hg).trans (h.2.2 i hi)⟩

theorem BB.set {w : World} {g : Nat} {l : List UInt8} (h : BB w g l) (k : Nat) (b : UInt8) (v : Int) (hv : v = (b.toNat : Int)) (hk : k < l.length) : BB (w.setCell ⟨g, k, none⟩ (.int .u8 v)) g (l.set k b) := by
  subst hv
  refine ⟨?_, fun i hi => ?_, fun i hi => ?_⟩
  · have := h.1
    simpa [World.setCell] using this
  · have hi' : i < l.length := by simpa using hi
    by_cases hik : i = k
    · subst hik
      rw [World.cell?_setCell_same (h := h.2.1 i hi')]
      simp
    · rw [World.cell?_setCell_other w _ _ _ (fun e => hik (by injection e; omega))]
      rw [h.2.1 i hi']
      rw [List.getElem_set_ne (fun e => hik e.symm)]
  · have hi' : i < l.length := by simpa using hi
    have := h.2.2 i hi'
    simpa using this

theorem BB.conv (W : World) (s : ByteArray) : BB (Lib.bytesWorld W 5 s) W.heap.size s.data.toList := by
  refine ⟨by rw [Lib.bytesWorld_size]; omega, fun i hi => ?_, fun i hi => ?_⟩
  · have hs : i < s.size := by simpa using hi
    rw [Lib.bytesWorld_cell W 5 s i hs]
    congr 2
    simp [hs]
  · have hs : i < s.size := by simpa using hi
    have := Lib.bytesWorld_at_new W 5 s
    have hz : i < (Lib.bytesCells W 5 s).size := by
      unfold Lib.bytesCells
      have : s.data.size = s.size := rfl
      simp
      omega
    simp [World.frozen?, this]
    omega

theorem conv_bytes (s : ByteArray) (W : World) : (convert 9 45 (.string s)).run Tryd.prog W = .ok (.slice (some ⟨W.heap.size, 0, none⟩) s.size (grownCap W s.size 0 5)) (Lib.bytesWorld W 5 s) :=
  Lib.run_convert_string_bytes W 9 45 5 s Tryd.underlying9 Tryd.underlying45 Tryd.underlying5

theorem conv_string {W : World} {g : Nat} {l : List UInt8} (h : BB W g l) (n cap : Nat) (hn : l.length = n) : (convert 45 9 (.slice (some ⟨g, 0, none⟩) n cap)).run Tryd.prog W = .ok (.string ⟨l.toArray⟩) W := by
  have hz : (⟨l.toArray⟩ : ByteArray).size = n := by show l.toArray.size = n; simpa using hn
  have := Lib.run_convert_whole (P := Tryd.prog) W 45 5 9 Tryd.underlying45 Tryd.underlying5 Tryd.underlying9 g 0 ⟨l.toArray⟩ (fun i hi => by
    have hi' : i < l.length := by rw [hz] at hi; omega
    have := h.2.1 i hi'
    rw [Nat.zero_add, this]
    rfl) cap
  rw [hz] at this
  exact this

end Go.Proofs.YtnfddblpenninaaDoor
/- What a step leaves as it was: all old blocks but some; a block that is known whole. -/
namespace Go.Proofs.YtnfddblpenninaaDoor
open Go.RowKit

/-- From a to b all old blocks but those of S are as they were. -/
structure Keeps (S : Nat → Prop) (a b : World) : Prop where
  os : b.os = a.os
  tape : b.tape = a.tape
  output : b.output = a.output
  size : a.heap.size ≤ b.heap.size
  block : ∀ k, k < a.heap.size → ¬ S k → b.heap[k]? = a.heap[k]?

section
variable {S : Nat → Prop} {a b c : World}
theorem Keeps.refl (S : Nat → Prop) (a : World) : Keeps S a a := ⟨rfl, rfl, rfl, Nat.le_refl _, fun _ _ _ => rfl⟩
theorem Keeps.trans (h : Keeps S a b) (k : Keeps S b c) : Keeps S a c :=
  ⟨k.os.trans h.os, k.tape.trans h.tape, k.output.trans h.output, Nat.le_trans h.size k.size, fun i hi hn => (k.block i (Nat.lt_of_lt_of_le hi h.size) hn).trans (h.block i hi hn)⟩
theorem Keeps.mono {T : Nat → Prop} (h : Keeps S a b) (hST : ∀ k, S k → T k) : Keeps T a b := ⟨h.os, h.tape, h.output, h.size, fun i hi hn => h.block i hi fun hs => hn (hST i hs)⟩
/-- What lies above the first world's size is free to turn. -/
theorem Keeps.mono_new {T : Nat → Prop} (h : Keeps S a b) (hST : ∀ k, k < a.heap.size → S k → T k) : Keeps T a b := ⟨h.os, h.tape, h.output, h.size, fun i hi hn => h.block i hi fun hs => hn (hST i hi hs)⟩
theorem Keeps.drew (h : Keeps S a b) : Keeps S a b.drew := ⟨h.os, h.tape, h.output, h.size, h.block⟩
theorem Keeps.drewN (h : Keeps S a b) (n : Nat) : Keeps S a (b.drewN n) := ⟨h.os, h.tape, h.output, h.size, h.block⟩
theorem Keeps.of_drewN {n : Nat} (h : Keeps S (a.drewN n) b) : Keeps S a b := ⟨h.os, h.tape, h.output, h.size, h.block⟩
theorem Keeps.alloc (h : Keeps S a b) (o : Obj) : Keeps S a (b.alloc o) :=
  ⟨h.os, h.tape, h.output, Nat.le_trans h.size (by simp), fun i hi hn => (Below.heap_alloc b o i (Nat.lt_of_lt_of_le hi h.size)).trans (h.block i hi hn)⟩
theorem Keeps.set (h : Keeps S a b) {p : Addr} (hp : S p.block ∨ a.heap.size ≤ p.block) (u : Value) : Keeps S a (b.setCell p u) :=
  ⟨h.os, h.tape, h.output, by simpa [World.setCell] using h.size, fun i hi hn => (Below.heap_setCell b p u i (by
    rintro rfl
    rcases hp with hp | hp
    · exact hn hp
    · omega)).trans (h.block i hi hn)⟩
theorem Keeps.of_below (h : Below a.heap.size a b) (S : Nat → Prop) : Keeps S a b := ⟨h.os, h.tape, h.output, h.size, fun i hi _ => h.block i hi⟩
theorem Keeps.of_grown {row : Option Nat} (h : a.grownBy b row) (hS : ∀ k, row = some k → S k) : Keeps S a b := ⟨h.os, h.tape, h.output, h.size, fun i hi hn => h.block i hi fun e => hn (hS i e.symm)⟩
theorem Keeps.below {B : Nat} (h : Keeps S a b) (hB : B ≤ a.heap.size) (hS : ∀ k, S k → B ≤ k) : Below B a b := ⟨h.os, h.tape, h.output, h.size, fun i hi => h.block i (by omega) fun hs => by have := hS i hs; omega⟩
theorem Keeps.cell (h : Keeps S a b) {p : Addr} (hp : p.block < a.heap.size) (hn : ¬ S p.block) : b.cell? p = a.cell? p := World.cell?_of_block (h.block _ hp hn)
theorem Keeps.frozen (h : Keeps S a b) {p : Addr} (hp : p.block < a.heap.size) (hn : ¬ S p.block) : b.frozen? p = a.frozen? p := World.frozen?_of_block (h.block _ hp hn)
end

/-- Block g is just these cells, none frozen. -/
def Whole (w : World) (g : Nat) (t : TypeId) (cs : Array Value) : Prop := w.heap[g]? = some (.cells cs t (0, 0))

section
variable {w w' : World} {g : Nat} {t : TypeId} {cs : Array Value}
theorem Whole.lt (h : Whole w g t cs) : g < w.heap.size := by
  rcases Nat.lt_or_ge g w.heap.size with hlt | hge
  · exact hlt
  · unfold Whole at h
    rw [Array.getElem?_eq_none hge] at h
    cases h
theorem Whole.cell (h : Whole w g t cs) (i : Nat) : w.cell? ⟨g, i, none⟩ = cs[i]? := by
  unfold Whole at h
  simp [World.cell?, h]
theorem Whole.frozen (h : Whole w g t cs) (i : Nat) : w.frozen? ⟨g, i, none⟩ = false := by
  unfold Whole at h
  simp [World.frozen?, h]
theorem Whole.new (w : World) (t : TypeId) (cs : Array Value) : Whole (w.alloc (.cells cs t)) w.heap.size t cs := by
  show (w.heap.push (.cells cs t))[w.heap.size]? = _
  simp
theorem Whole.drew (h : Whole w g t cs) : Whole w.drew g t cs := h
theorem Whole.drewN (h : Whole w g t cs) (n : Nat) : Whole (w.drewN n) g t cs := h
theorem Whole.alloc (h : Whole w g t cs) (o : Obj) : Whole (w.alloc o) g t cs := (Below.heap_alloc w o g h.lt).trans h
theorem Whole.set (h : Whole w g t cs) (i : Nat) (u : Value) : Whole (w.setCell ⟨g, i, none⟩ u) g t (cs.setIfInBounds i u) := by
  unfold Whole at h ⊢
  simp [World.setCell, Array.getElem?_modify, h]
theorem Whole.far (h : Whole w g t cs) {p : Addr} (hp : g ≠ p.block) (u : Value) : Whole (w.setCell p u) g t cs := (Below.heap_setCell w p u g hp).trans h
theorem Whole.keep {S : Nat → Prop} (h : Whole w g t cs) (k : Keeps S w w') (hg : ¬ S g) : Whole w' g t cs := (k.block g h.lt hg).trans h
theorem Whole.below {B : Nat} (h : Whole w g t cs) (k : Below B w w') (hg : g < B) : Whole w' g t cs := (k.block g hg).trans h
theorem Whole.ne {g' : Nat} {t' : TypeId} {cs' : Array Value} (h : Whole w g t cs) (h' : Whole w g' t' cs') (hne : t ≠ t') : g ≠ g' := by
  rintro rfl
  unfold Whole at h h'
  rw [h] at h'
  injection h' with h'
  injection h' with _ ht
  exact hne ht
end

theorem own_keep {S : Nat → Prop} {w w' : World} {base : Nat} {e : TypeId} {size n : Nat} {v : Value} {xs : List Value} (h : w.ownsRow base e size v n xs) (k : Keeps S w w') (hn : ∀ g, v.ownBlock = some g → ¬ S g) : w'.ownsRow base e size v n xs := by
  refine ⟨h.1, ?_⟩
  rcases h.2 with h0 | ⟨g, cap, cur, rfl, hb, hgg, rest⟩
  · exact .inl h0
  · refine .inr ⟨g, cap, cur, rfl, hb, ?_, rest⟩
    rw [k.block g (Array.getElem?_eq_some_iff.1 hgg).1 (hn g rfl)]
    exact hgg

end Go.Proofs.YtnfddblpenninaaDoor
