/- What a step leaves as it was: all old blocks but some; a block that is known whole. -/
import Derived.Test.YtnfddblpenninaaDoorProg
import Derived.WalkKit
import Derived.WalkSmall
import Derived.Handy
namespace Go.Proofs.YtnfddblpenninaaDoor
open Go.RowKit

/-- From a to b all old blocks but those of S are as they were. -/
structure Keeps (S : Nat → Prop) (a b : World) : Prop where
  os : b.os = a.os
  tape : b.tape = a.tape
  output : b.output = a.output
  size : a.heap.size ≤ b.heap.size
  block : ∀ k, k < a.heap.size → ¬ S k → b.heap[k]? = a.heap[k]?

section
variable {S : Nat → Prop} {a b c : World}
theorem Keeps.refl (S : Nat → Prop) (a : World) : Keeps S a a := ⟨rfl, rfl, rfl, Nat.le_refl _, fun _ _ _ => rfl⟩
theorem Keeps.trans (h : Keeps S a b) (k : Keeps S b c) : Keeps S a c :=
  ⟨k.os.trans h.os, k.tape.trans h.tape, k.output.trans h.output, Nat.le_trans h.size k.size, fun i hi hn => (k.block i (Nat.lt_of_lt_of_le hi h.size) hn).trans (h.block i hi hn)⟩
theorem Keeps.mono {T : Nat → Prop} (h : Keeps S a b) (hST : ∀ k, S k → T k) : Keeps T a b := ⟨h.os, h.tape, h.output, h.size, fun i hi hn => h.block i hi fun hs => hn (hST i hs)⟩
/-- What lies above the first world's size is free to turn. -/
theorem Keeps.mono_new {T : Nat → Prop} (h : Keeps S a b) (hST : ∀ k, k < a.heap.size → S k → T k) : Keeps T a b := ⟨h.os, h.tape, h.output, h.size, fun i hi hn => h.block i hi fun hs => hn (hST i hi hs)⟩
theorem Keeps.drew (h : Keeps S a b) : Keeps S a b.drew := ⟨h.os, h.tape, h.output, h.size, h.block⟩
theorem Keeps.drewN (h : Keeps S a b) (n : Nat) : Keeps S a (b.drewN n) := ⟨h.os, h.tape, h.output, h.size, h.block⟩
theorem Keeps.of_drewN {n : Nat} (h : Keeps S (a.drewN n) b) : Keeps S a b := ⟨h.os, h.tape, h.output, h.size, h.block⟩
theorem Keeps.alloc (h : Keeps S a b) (o : Obj) : Keeps S a (b.alloc o) :=
  ⟨h.os, h.tape, h.output, Nat.le_trans h.size (by simp), fun i hi hn => (Below.heap_alloc b o i (Nat.lt_of_lt_of_le hi h.size)).trans (h.block i hi hn)⟩
theorem Keeps.set (h : Keeps S a b) {p : Addr} (hp : S p.block ∨ a.heap.size ≤ p.block) (u : Value) : Keeps S a (b.setCell p u) :=
  ⟨h.os, h.tape, h.output, by simpa [World.setCell] using h.size, fun i hi hn => (Below.heap_setCell b p u i (by
    rintro rfl
    rcases hp with hp | hp
    · exact hn hp
    · omega)).trans (h.block i hi hn)⟩
theorem Keeps.of_below (h : Below a.heap.size a b) (S : Nat → Prop) : Keeps S a b := ⟨h.os, h.tape, h.output, h.size, fun i hi _ => h.block i hi⟩
theorem Keeps.of_grown {row : Option Nat} (h : a.grownBy b row) (hS : ∀ k, row = some k → S k) : Keeps S a b := ⟨h.os, h.tape, h.output, h.size, fun i hi hn => h.block i hi fun e => hn (hS i e.symm)⟩
theorem Keeps.below {B : Nat} (h : Keeps S a b) (hB : B ≤ a.heap.size) (hS : ∀ k, S k → B ≤ k) : Below B a b := ⟨h.os, h.tape, h.output, h.size, fun i hi => h.block i (by omega) fun hs => by have := hS i hs; omega⟩
theorem Keeps.cell (h : Keeps S a b) {p : Addr} (hp : p.block < a.heap.size) (hn : ¬ S p.block) : b.cell? p = a.cell? p := World.cell?_of_block (h.block _ hp hn)
theorem Keeps.frozen (h : Keeps S a b) {p : Addr} (hp : p.block < a.heap.size) (hn : ¬ S p.block) : b.frozen? p = a.frozen? p := World.frozen?_of_block (h.block _ hp hn)
end

/-- Block g is just these cells, none frozen. -/
def Whole (w : World) (g : Nat) (t : TypeId) (cs : Array Value) : Prop := w.heap[g]? = some (.cells cs t (0, 0))

section
variable {w w' : World} {g : Nat} {t : TypeId} {cs : Array Value}
theorem Whole.lt (h : Whole w g t cs) : g < w.heap.size := by
  rcases Nat.lt_or_ge g w.heap.size with hlt | hge
  · exact hlt
  · unfold Whole at h
    rw [Array.getElem?_eq_none hge] at h
    cases h
theorem Whole.cell (h : Whole w g t cs) (i : Nat) : w.cell? ⟨g, i, none⟩ = cs[i]? := by
  unfold Whole at h
  simp [World.cell?, h]
theorem Whole.frozen (h : Whole w g t cs) (i : Nat) : w.frozen? ⟨g, i, none⟩ = false := by
  unfold Whole at h
  simp [World.frozen?, h]
theorem Whole.new (w : World) (t : TypeId) (cs : Array Value) : Whole (w.alloc (.cells cs t)) w.heap.size t cs := by
  show (w.heap.push (.cells cs t))[w.heap.size]? = _
  simp
theorem Whole.drew (h : Whole w g t cs) : Whole w.drew g t cs := h
theorem Whole.drewN (h : Whole w g t cs) (n : Nat) : Whole (w.drewN n) g t cs := h
theorem Whole.alloc (h : Whole w g t cs) (o : Obj) : Whole (w.alloc o) g t cs := (Below.heap_alloc w o g h.lt).trans h
theorem Whole.set (h : Whole w g t cs) (i : Nat) (u : Value) : Whole (w.setCell ⟨g, i, none⟩ u) g t (cs.setIfInBounds i u) := by
  unfold Whole at h ⊢
  simp [World.setCell, Array.getElem?_modify, h]
theorem Whole.far (h : Whole w g t cs) {p : Addr} (hp : g ≠ p.block) (u : Value) : Whole (w.setCell p u) g t cs := (Below.heap_setCell w p u g hp).trans h
theorem Whole.keep {S : Nat → Prop} (h : Whole w g t cs) (k : Keeps S w w') (hg : ¬ S g) : Whole w' g t cs := (k.block g h.lt hg).trans h
theorem Whole.below {B : Nat} (h : Whole w g t cs) (k : Below B w w') (hg : g < B) : Whole w' g t cs := (k.block g hg).trans h
theorem Whole.ne {g' : Nat} {t' : TypeId} {cs' : Array Value} (h : Whole w g t cs) (h' : Whole w g' t' cs') (hne : t ≠ t') : g ≠ g' := by
  rintro rfl
  unfold Whole at h h'
  rw [h] at h'
  injection h' with h'
  injection h' with _ ht
  exact hne ht
end

theorem own_keep {S : Nat → Prop} {w w' : World} {base : Nat} {e : TypeId} {size n : Nat} {v : Value} {xs : List Value} (h : w.ownsRow base e size v n xs) (k : Keeps S w w') (hn : ∀ g, v.ownBlock = some g → ¬ S g) : w'.ownsRow base e size v n xs := by
  refine ⟨h.1, ?_⟩
  rcases h.2 with h0 | ⟨g, cap, cur, rfl, hb, hgg, rest⟩
  · exact .inl h0
  · refine .inr ⟨g, cap, cur, rfl, hb, ?_, rest⟩
    rw [k.block g (Array.getElem?_eq_some_iff.1 hgg).1 (hn g rfl)]
    exact hgg

end Go.Proofs.YtnfddblpenninaaDoor
