/- Several writers: how they are made (the plain words). -/
import Derived.Test.YtiboiagimcgjkaaDoorMulB
namespace Go.Proofs.YtiboiagimcgjkaaDoor
open Go.RowKit

def ptr (b : Nat) : Value := .pointer (some ⟨b, 0, none⟩)
theorem own_typed {w : World} {base : Nat} {e : TypeId} {size n : Nat} {v : Value} {xs : List Value} (h : w.ownsRow base e size v n xs) {g : Nat} (hg : v.ownBlock = some g) : Typed w g e ∧ base ≤ g := by
  rcases h.2 with ⟨rfl, _⟩ | ⟨b, cap, cur, rfl, hb, hgg, _⟩
  · cases hg
  · injection hg with hg
    subst hg
    exact ⟨⟨_, _, hgg⟩, hb⟩
def upd (f : Nat → Nat) (j x : Nat) : Nat → Nat := fun i => if i = j then x else f i
theorem map_upd {f : Nat → Nat} {j x : Nat} (c : Nat → Value) : (List.range (j + 1)).map (fun i => c (upd f j x i)) = (List.range j).map (fun i => c (f i)) ++ [c x] := by
  rw [List.range_succ, List.map_append]
  congr 1
  · apply List.map_congr_left
    intro i hi
    have := List.mem_range.1 hi
    unfold upd
    rw [if_neg (by omega)]
  · unfold upd
    simp

/-- j writers have been made. -/
def Made (w : World) (base j : Nat) (F L : Nat → Nat) (lo : Nat → Int) (vo vw : Value) : Prop :=
  w.ownsRow base 40 1 vo j ((List.range j).map fun i => ptr (L i)) ∧ w.ownsRow base 45 1 vw j ((List.range j).map fun i => .iface 43 (ptr (F i))) ∧ Sys w base j F L lo (fun _ => []) (fun _ => none)

theorem made_step {wr w1 w2 : World} {base j : Nat} {F L : Nat → Nat} {lo : Nat → Int} {vo vw vo' vw' : Value} (h : Made wr base j F L lo vo vw) (hbase : base ≤ wr.heap.size)
    (hg1 : ((wr.alloc (.cells #[.slice none 0 0] 42)).alloc (.cells #[ptr wr.heap.size] 40)).grownBy w1 vo.ownBlock)
    (ho1 : w1.ownsRow base 40 1 vo' (j + 1) (((List.range j).map fun i => ptr (L i)) ++ [ptr wr.heap.size]))
    (hg2 : ((w1.alloc (.cells #[.iface 47 (adV wr.heap.size), .int .i8 (lo j)] 53)).alloc (.cells #[.iface 43 (ptr w1.heap.size)] 45)).grownBy w2 vw.ownBlock)
    (ho2 : w2.ownsRow base 45 1 vw' (j + 1) (((List.range j).map fun i => .iface 43 (ptr (F i))) ++ [.iface 43 (ptr w1.heap.size)])) :
    Made w2 base (j + 1) (upd F j w1.heap.size) (upd L j wr.heap.size) lo vo' vw' ∧ Below base wr w2 := by
  obtain ⟨a1, a2, a3⟩ := h
  have k1 : Keeps (fun g => Typed wr g 40) wr w1 := (((Keeps.refl _ wr).alloc _).alloc _).trans ((Keeps.of_grown hg1 (fun k hk => hk)).mono_new (T := fun g => Typed wr g 40) (fun g hg hs => (own_typed a1 hs).1)) 
  have t2 : ∀ g, vw.ownBlock = some g → Typed w1 g 45 := fun g hg => (own_typed a2 hg).1.keep k1 (fun ht => (own_typed a2 hg).1.ne ht (by decide) rfl)
  have k2 : Keeps (fun g => Typed w1 g 45) w1 w2 := (((Keeps.refl _ w1).alloc _).alloc _).trans ((Keeps.of_grown hg2 (fun k hk => hk)).mono_new (T := fun g => Typed w1 g 45) (fun g hg hs => t2 g hs))
  have s1 : wr.heap.size + 2 ≤ w1.heap.size := by have := hg1.size; simpa using this
  have s2 : w1.heap.size + 2 ≤ w2.heap.size := by have := hg2.size; simpa using this
  have hLn : Whole w1 wr.heap.size 42 #[.slice none 0 0] := by
    have h0 : Whole ((wr.alloc (.cells #[.slice none 0 0] 42)).alloc (.cells #[ptr wr.heap.size] 40)) wr.heap.size 42 #[.slice none 0 0] := (Whole.new wr 42 _).alloc _
    refine h0.grown hg1 fun e => ?_
    have := (own_typed a1 e).1.lt
    omega
  have hFn : Whole w2 w1.heap.size 53 #[.iface 47 (adV wr.heap.size), .int .i8 (lo j)] := by
    have h0 : Whole ((w1.alloc (.cells #[.iface 47 (adV wr.heap.size), .int .i8 (lo j)] 53)).alloc (.cells #[.iface 43 (ptr w1.heap.size)] 45)) w1.heap.size 53 #[.iface 47 (adV wr.heap.size), .int .i8 (lo j)] := (Whole.new w1 53 _).alloc _
    refine h0.grown hg2 fun e => ?_
    have := (t2 _ e).lt
    omega
  have hL2 : Whole w2 wr.heap.size 42 #[.slice none 0 0] := hLn.keep k2 (fun ht => hLn.typed.ne ht (by decide) rfl)
  have ho1' : w2.ownsRow base 40 1 vo' (j + 1) (((List.range j).map fun i => ptr (L i)) ++ [ptr wr.heap.size]) := own_keep ho1 k2 (fun g hg ht => (own_typed ho1 hg).1.ne ht (by decide) rfl)
  have sy1 : Sys w1 base j F L lo (fun _ => []) (fun _ => none) := a3.keep k1 (fun i hi ht => (a3.flt i hi).typed.ne ht (by decide) rfl) (fun i hi ht => (a3.lin i hi).typed.ne ht (by decide) rfl) (fun i hi g hg => by cases hg)
  have sy2 : Sys w2 base j F L lo (fun _ => []) (fun _ => none) := sy1.keep k2 (fun i hi ht => (sy1.flt i hi).typed.ne ht (by decide) rfl) (fun i hi ht => (sy1.lin i hi).typed.ne ht (by decide) rfl) (fun i hi g hg => by cases hg)
  refine ⟨⟨by rw [map_upd ptr]; exact ho1', by rw [map_upd (fun b => .iface 43 (ptr b))]; exact ho2, ⟨fun i hi => ?_, fun i hi => ?_, fun i i' hi hi' hne => ?_, fun i i' hi hi' hne g hg => (by cases hg), fun i hi => ?_⟩⟩, ?_⟩
  · unfold upd
    by_cases h : i = j
    · subst h
      rw [if_pos rfl, if_pos rfl]
      exact hFn
    · rw [if_neg h, if_neg h]
      exact sy2.flt i (by omega)
  · unfold upd
    by_cases h : i = j
    · rw [if_pos h]
      exact ⟨.slice none 0 0, hL2, ⟨by decide, .inl ⟨rfl, rfl⟩⟩, rfl, fun e => by cases e⟩
    · rw [if_neg h]
      exact sy2.lin i (by omega)
  · unfold upd
    by_cases h : i = j
    · rw [if_pos h, if_neg (by omega)]
      have := (a3.lin i' (by omega)).typed.lt
      omega
    · rw [if_neg h]
      by_cases h' : i' = j
      · rw [if_pos h']
        have := (a3.lin i (by omega)).typed.lt
        omega
      · rw [if_neg h']
        exact a3.dL i i' (by omega) (by omega) hne
  · unfold upd
    by_cases h : i = j
    · rw [if_pos h]; exact hbase
    · rw [if_neg h]; exact a3.bL i (by omega)
  · have b1 : Below base wr w1 := by
      refine (((Keeps.refl (fun g => base ≤ g) wr).alloc _).alloc _ |>.trans ((Keeps.of_grown hg1 (fun k hk => hk)).mono fun g hs => (own_typed a1 hs).2)).below hbase (fun _ h => h)
    have b2 : Below base w1 w2 := by
      refine (((Keeps.refl (fun g => base ≤ g) w1).alloc _).alloc _ |>.trans ((Keeps.of_grown hg2 (fun k hk => hk)).mono fun g hs => (own_typed a2 hs).2)).below (by omega) (fun _ h => h)
    exact b1.trans b2
end Go.Proofs.YtiboiagimcgjkaaDoor
