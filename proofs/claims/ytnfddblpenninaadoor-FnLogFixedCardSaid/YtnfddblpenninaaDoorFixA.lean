/- A row of words of 32 bits with room; appends to it. -/
import Derived.Test.YtnfddblpenninaaDoorMem
import Derived.Test.YtnfddblpenninaaDoorKeep
import Derived.Test.YtnfddblpenninaaDoorLevC
import Derived.Deep.RegionHeld3
import Derived.Deep.AppendLies
import Derived.Deep.DeepCutAuto
import Derived.Deep.RegionLaw
import Derived.OwnWalk
import Derived.OneCell
import Derived.Lib.AppendZeros
import Derived.Lib.LazyBuf
import Derived.Lib.AppendStr
import Derived.ArgAppend
import Derived.BigQuiet
import Derived.LoopTactic
namespace Go.Proofs.YtnfddblpenninaaDoor
open Go.RowKit

def wordV (c : Nat) : Value := .int .u32 (c : Int)
/-- Block b is cap words, the first of which are l. -/
def WB (w : World) (b cap : Nat) (l : List Nat) : Prop :=
  ∃ cs : Array Value, Whole w b 40 cs ∧ cs.size = cap ∧ l.length ≤ cap ∧ ∀ i (h : i < l.length), cs[i]? = some (wordV l[i])

theorem WB.lt {w : World} {b cap : Nat} {l : List Nat} (h : WB w b cap l) : b < w.heap.size := by obtain ⟨_, h, _⟩ := h; exact h.lt
theorem WB.at {w : World} {b cap : Nat} {l : List Nat} (h : WB w b cap l) (i : Nat) (hi : i < cap) : (w.cell? ⟨b, i, none⟩).isSome = true := by
  obtain ⟨cs, hw, hs, _, _⟩ := h
  rw [hw.cell, Array.getElem?_eq_getElem (by omega)]
  rfl
theorem WB.frozen {w : World} {b cap : Nat} {l : List Nat} (h : WB w b cap l) (i : Nat) : w.frozen? ⟨b, i, none⟩ = false := by
  obtain ⟨cs, hw, _⟩ := h
  exact hw.frozen i
theorem WB.cell {w : World} {b cap : Nat} {l : List Nat} (h : WB w b cap l) (i : Nat) (hi : i < l.length) : w.cell? ⟨b, i, none⟩ = some (wordV l[i]) := by
  obtain ⟨cs, hw, _, _, hc⟩ := h
  rw [hw.cell, hc i hi]
theorem WB.keep {w w' : World} {b cap : Nat} {l : List Nat} {T : Nat → Prop} (h : WB w b cap l) (k : Keeps T w w') (hb : ¬ T b) : WB w' b cap l := by
  obtain ⟨cs, hw, r⟩ := h
  exact ⟨cs, hw.keep k hb, r⟩
theorem WB.put {w : World} {b cap : Nat} {l : List Nat} (h : WB w b cap l) (c : Nat) (n : Nat) (hn : l.length = n) (hf : n < cap) : WB (w.setCell ⟨b, n, none⟩ (wordV c)) b cap (l ++ [c]) := by
  subst hn
  obtain ⟨cs, hw, hs, hl, hc⟩ := h
  refine ⟨cs.setIfInBounds l.length (wordV c), hw.set l.length _, by simpa using hs, by simp; omega, fun i hi => ?_⟩
  rw [List.length_append, List.length_singleton] at hi
  by_cases hil : i < l.length
  · rw [Array.getElem?_setIfInBounds, if_neg (by omega), hc i hil, List.getElem_append_left hil]
  · obtain rfl : i = l.length := by omega
    rw [Array.getElem?_setIfInBounds, if_pos rfl, if_pos (by omega)]
    simp

set_option maxRecDepth 10000 in
theorem info40 : ∃ i, Tryd.prog.info? 40 = some i ∧ i.size = 1 ∧ i.zero = some (.int .u32 0) ∧ i.bytes = 4 := ⟨_, rfl, rfl, rfl, rfl⟩
set_option maxRecDepth 10000 in
/-- An append of a word that fits. -/
theorem word_append {w : World} {b cap : Nat} {l : List Nat} {x n : Nat} {a : Addr} (h : WB w b cap l) (hf : n < cap) (hm : w.cell? a = some (wordV x)) :
    (Builtin.append_ #[31, 31] 31 #[.slice (some ⟨b, 0, none⟩) n cap, .slice (some a) 1 1]).run Tryd.prog w = .ok (.slice (some ⟨b, 0, none⟩) (n + 1) cap) (w.setCell ⟨b, n, none⟩ (wordV x)) := by
  obtain ⟨i, hi, hs, _⟩ := info40
  have := run_append_room_cells (P := Tryd.prog) w 31 31 40 i Tryd.underlying31 hi b 0 n cap a 1 1 [wordV x] (by simp [hs]) (fun j u hu => by
    match j with
    | 0 =>
      have hu' : wordV x = u := by simpa using hu
      rw [← hu', ← hm]
      simp [Addr.add]
    | j + 1 => cases hu) (fun u hu => by
    obtain rfl := List.mem_singleton.1 hu
    rfl) (by omega) (fun j hj => by
      obtain rfl : j = 0 := by simpa using hj
      rw [hs]
      exact h.at (0 + n * 1 + 0) (by omega)) (fun j _ => h.frozen _)
  rw [hs, Nat.zero_add, Nat.mul_one] at this
  exact this

/-- An append whose run is known. -/
theorem wpList_app {P : Program} {w w' : World} {ops : Array Oper} {rest : List Oper} {o : Oper} {a : Act} {Q : Exit → Act → World → Prop} (hgd : o.guard = none) (s x : Operand) (t u : TypeId)
    (ho : o.op = .call { callee := .builtin .append, args := #[s, x], argTypes := #[t, u] }) (vs vx v' : Value) (hs : a.eval s = vs) (hx : a.eval x = vx)
    (hr : (Builtin.append_ #[t, u] o.type #[vs, vx]).run P w = .ok v' w') (h : wpList P ops Q rest (a.put o.dst v') w') : wpList P ops Q (o :: rest) a w :=
  wpList_plain hgd fun _ hK => by
    unfold Oper.wp execOp
    simp only [ho, resolve, invoke, builtin, Sem.run_bind, Sem.run_pure, Result.andThen_ok, List.map_toArray, List.map_cons, List.map_nil, hs, hx, hr]
    exact hK _ _ h
/-- A word more. -/
theorem wpList_push {w : World} {ops : Array Oper} {rest : List Oper} {o : Oper} {a : Act} {Q : Exit → Act → World → Prop} (hgd : o.guard = none) (s x : Operand)
    (ho : o.op = .call { callee := .builtin .append, args := #[s, x], argTypes := #[31, 31] }) (hty : o.type = 31) (b n cap : Nat) (l : List Nat) (c : Nat) (ad : Addr) (hs : a.eval s = .slice (some ⟨b, 0, none⟩) n cap) (hx : a.eval x = .slice (some ad) 1 1)
    (hB : WB w b cap l) (hn : l.length = n) (hf : n < cap) (hc : w.cell? ad = some (wordV c))
    (h : ∀ w', WB w' b cap (l ++ [c]) → Keeps (fun k => k = b) w w' → wpList Tryd.prog ops Q rest (a.put o.dst (.slice (some ⟨b, 0, none⟩) (n + 1) cap)) w') : wpList Tryd.prog ops Q (o :: rest) a w := by
  have hr := word_append (w := w) (b := b) (l := l) (n := n) (a := ad) hB hf hc
  refine wpList_app hgd s x 31 31 ho _ _ _ hs hx (by rw [hty]; exact hr) (h _ (hB.put c n hn hf) ?_)
  exact (Keeps.refl (fun k => k = b) w).set (p := ⟨b, n, none⟩) (.inl rfl) _
theorem new_word (w : World) (v : Int) (c : Nat) (hv : v = (c : Int)) : (w.alloc (.cells #[.int .u32 v] 40)).cell? ⟨w.heap.size, 0, none⟩ = some (wordV c) := by
  subst hv
  exact (Whole.new w 40 _).cell 0
/-- A new row with room. -/
theorem make_words (n : Nat) (hn : n ≤ 100000) : ∃ cs : Array Value, cs.size = n ∧ ∀ w : World, Sem.run Tryd.prog (Instr.makeSlice 31 (Value.int IntKind.i64 0) (Value.int IntKind.i64 (n : Int))) w = .ok (.slice (some ⟨w.heap.size, 0, none⟩) 0 n) (w.alloc (.cells cs 40)) := by
  obtain ⟨i, hi, hs, hz, hb⟩ := info40
  refine ⟨madeCells (Value.int .u32 0).cells ((n : Int).toNat * i.size), by rw [size_madeCells, hs]; simp, fun w => ?_⟩
  have := run_makeSlice (P := Tryd.prog) w 31 40 i (.int .u32 0) Tryd.underlying31 hi hz .i64 .i64 0 n (by omega) (by omega) (by rw [hs]; omega) (by rw [hb]; omega) (by omega)
  exact this

/-- The number of these words. -/
def wval : List Nat → Nat
  | [] => 0
  | x :: r => x + 4294967296 * wval r
theorem wval_append (l m : List Nat) : wval (l ++ m) = wval l + 4294967296 ^ l.length * wval m := by
  induction l with
  | nil => simp [wval]
  | cons x r ih =>
    simp only [List.cons_append, wval, ih, List.length_cons, Nat.pow_succ, Nat.mul_add]
    rw [Nat.add_assoc, ← Nat.mul_assoc, Nat.mul_comm 4294967296 (4294967296 ^ r.length)]
theorem wval_take (l : List Nat) (i : Nat) (h : i < l.length) : wval (l.take (i + 1)) = wval (l.take i) + 4294967296 ^ i * l[i] := by
  rw [List.take_succ_eq_append_getElem h, wval_append, List.length_take, Nat.min_eq_left (by omega)]
  simp [wval]
/-- A number at p. -/
def NatAt (w : World) (p : Option Addr) (xs : List Nat) : Prop := (∀ x ∈ xs, x < 4294967296) ∧ ∀ i (h : i < xs.length), ∃ g, p = some ⟨g, 0, none⟩ ∧ g < w.heap.size ∧ w.cell? ⟨g, i, none⟩ = some (wordV xs[i])
theorem NatAt.below {w w' : World} {p : Option Addr} {xs : List Nat} (h : NatAt w p xs) (k : Below w.heap.size w w') : NatAt w' p xs :=
  ⟨h.1, fun i hi => by
    obtain ⟨g, hp, hg, hc⟩ := h.2 i hi
    exact ⟨g, hp, Nat.lt_of_lt_of_le hg k.size, (World.cell?_of_block (a := ⟨g, i, none⟩) (k.block g hg)).trans hc⟩⟩
theorem NatAt.of_wb {w : World} {b cap : Nat} {l : List Nat} (h : WB w b cap l) (hl : ∀ x ∈ l, x < 4294967296) : NatAt w (some ⟨b, 0, none⟩) l := ⟨hl, fun i hi => ⟨b, rfl, h.lt, h.cell i hi⟩⟩
/-- One round: a word times a small number, the carry put to it. -/
theorem step_carry (c x by' : Nat) (hc : c < 4294967296) (hx : x < 4294967296) (hb : by' < 4294967296) : c + x * by' < 18446744073709551616 ∧ (c + x * by') / 4294967296 < 4294967296 := by
  have h : x * by' ≤ 4294967295 * 4294967295 := Nat.mul_le_mul (by omega) (by omega)
  omega
end Go.Proofs.YtnfddblpenninaaDoor
