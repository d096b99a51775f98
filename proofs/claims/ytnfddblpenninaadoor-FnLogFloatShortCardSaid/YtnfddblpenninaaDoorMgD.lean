/- A row of words of 32 bits with room; appends to it. -/
import Derived.Test.YtnfddblpenninaaDoorMgA
import Derived.Test.YtnfddblpenninaaDoorMgC
import Derived.Deep.RegionHeld3
import Derived.Deep.AppendLies
import Derived.Deep.DeepCutAuto
import Derived.Deep.RegionLaw
import Derived.OwnWalk
import Derived.OneCell
import Derived.Lib.AppendZeros
import Derived.Lib.LazyBuf
import Derived.Lib.AppendStr
import Derived.ArgAppend
import Derived.BigQuiet
import Derived.LoopTactic
namespace Go.Proofs.YtnfddblpenninaaDoor
open Go.RowKit

def wordV (c : Nat) : Value := .int .u32 (c : Int)
/-- Block b is cap words, the first of which are l. -/
def WB (w : World) (b cap : Nat) (l : List Nat) : Prop :=
  ∃ cs : Array Value, Whole w b 40 cs ∧ cs.size = cap ∧ l.length ≤ cap ∧ ∀ i (h : i < l.length), cs[i]? = some (wordV l[i])

theorem WB.lt {w : World} {b cap : Nat} {l : List Nat} (h : WB w b cap l) : b < w.heap.size := by obtain ⟨_, h, _⟩ := h; exact h.lt
theorem WB.at {w : World} {b cap : Nat} {l : List Nat} (h : WB w b cap l) (i : Nat) (hi : i < cap) : (w.cell? ⟨b, i, none⟩).isSome = true := by
  obtain ⟨cs, hw, hs, _, _⟩ := h
  rw [hw.cell, Array.getElem?_eq_getElem (by omega)]
  rfl
theorem WB.frozen {w : World} {b cap : Nat} {l : List Nat} (h : WB w b cap l) (i : Nat) : w.frozen? ⟨b, i, none⟩ = false := by
  obtain ⟨cs, hw, _⟩ := h
  exact hw.frozen i
theorem WB.cell {w : World} {b cap : Nat} {l : List Nat} (h : WB w b cap l) (i : Nat) (hi : i < l.length) : w.cell? ⟨b, i, none⟩ = some (wordV l[i]) := by
  obtain ⟨cs, hw, _, _, hc⟩ := h
  rw [hw.cell, hc i hi]
theorem WB.keep {w w' : World} {b cap : Nat} {l : List Nat} {T : Nat → Prop} (h : WB w b cap l) (k : Keeps T w w') (hb : ¬ T b) : WB w' b cap l := by
  obtain ⟨cs, hw, r⟩ := h
  exact ⟨cs, hw.keep k hb, r⟩
theorem WB.put {w : World} {b cap : Nat} {l : List Nat} (h : WB w b cap l) (c : Nat) (n : Nat) (hn : l.length = n) (hf : n < cap) : WB (w.setCell ⟨b, n, none⟩ (wordV c)) b cap (l ++ [c]) := by
  subst hn
  obtain ⟨cs, hw, hs, hl, hc⟩ := h
  refine ⟨cs.setIfInBounds l.length (wordV c), hw.set l.length _, by simpa using hs, by simp; omega, fun i hi => ?_⟩
  rw [List.length_append, List.length_singleton] at hi
  by_cases hil : i < l.length
  · rw [Array.getElem?_setIfInBounds, if_neg (by omega), hc i hil, List.getElem_append_left hil]
  · obtain rfl : i = l.length := by omega
    rw [Array.getElem?_setIfInBounds, if_pos rfl, if_pos (by omega)]
    simp

set_option maxRecDepth 10000 in
theorem info40 : ∃ i, Tryd.prog.info? 40 = some i ∧ i.size = 1 ∧ i.zero = some (.int .u32 0) ∧ i.bytes = 4 := ⟨_, rfl, rfl, rfl, rfl⟩
set_option maxRecDepth 10000 in
/-- An append of a word that fits. -/
theorem word_append {w : World} {b cap : Nat} {l : List Nat} {x n : Nat} {a : Addr} (h : WB w b cap l) (hf : n < cap) (hm : w.cell? a = some (wordV x)) :
    (Builtin.append_ #[31, 31] 31 #[.slice (some ⟨b, 0, none⟩) n cap, .slice (some a) 1 1]).run Tryd.prog w = .ok (.slice (some ⟨b, 0, none⟩) (n + 1) cap) (w.setCell ⟨b, n, none⟩ (wordV x)) := by
  obtain ⟨i, hi, hs, _⟩ := info40
  have := run_append_room_cells (P := Tryd.prog) w 31 31 40 i Tryd.underlying31 hi b 0 n cap a 1 1 [wordV x] (by simp [hs]) (fun j u hu => by
    match j with
    | 0 =>
      have hu' : wordV x = u := by simpa using hu
      rw [← hu', ← hm]
      simp [Addr.add]
    | j + 1 => cases hu) (fun u hu => by
    obtain rfl := List.mem_singleton.1 hu
    rfl) (by omega) (fun j hj => by
      obtain rfl : j = 0 := by simpa using hj
      rw [hs]
      exact h.at (0 + n * 1 + 0) (by omega)) (fun j _ => h.frozen _)
  rw [hs, Nat.zero_add, Nat.mul_one] at this
  exact this

/-- An append whose run is known. -/
theorem wpList_app {P : Program} {w w' : World} {ops : Array Oper} {rest : List Oper} {o : Oper} {a : Act} {Q : Exit → Act → World → Prop} (hgd : o.guard = none) (s x : Operand) (t u : TypeId)
    (ho : o.op = .call { callee := .builtin .append, args := #[s, x], argTypes := #[t, u] }) (vs vx v' : Value) (hs : a.eval s = vs) (hx : a.eval x = vx)
    (hr : (Builtin.append_ #[t, u] o.type #[vs, vx]).run P w = .ok v' w') (h : wpList P ops Q rest (a.put o.dst v') w') : wpList P ops Q (o :: rest) a w :=
  wpList_plain hgd fun _ hK => by
    unfold Oper.wp execOp
    simp only [ho, resolve, invoke, builtin, Sem.run_bind, Sem.run_pure, Result.andThen_ok, List.map_toArray, List.map_cons, List.map_nil, hs, hx, hr]
    exact hK _ _ h
/-- A word more. -/
theorem wpList_push {w : World} {ops : Array Oper} {rest : List Oper} {o : Oper} {a : Act} {Q : Exit → Act → World → Prop} (hgd : o.guard = none) (s x : Operand)
    (ho : o.op = .call { callee := .builtin .append, args := #[s, x], argTypes := #[31, 31] }) (hty : o.type = 31) (b n cap : Nat) (l : List Nat) (c : Nat) (ad : Addr) (hs : a.eval s = .slice (some ⟨b, 0, none⟩) n cap) (hx : a.eval x = .slice (some ad) 1 1)
    (hB : WB w b cap l) (hn : l.length = n) (hf : n < cap) (hc : w.cell? ad = some (wordV c))
    (h : ∀ w', WB w' b cap (l ++ [c]) → Keeps (fun k => k = b) w w' → wpList Tryd.prog ops Q rest (a.put o.dst (.slice (some ⟨b, 0, none⟩) (n + 1) cap)) w') : wpList Tryd.prog ops Q (o :: rest) a w := by
  have hr := word_append (w := w) (b := b) (l := l) (n := n) (a := ad) hB hf hc
  refine wpList_app hgd s x 31 31 ho _ _ _ hs hx (by rw [hty]; exact hr) (h _ (hB.put c n hn hf) ?_)
  exact (Keeps.refl (fun k => k = b) w).set (p := ⟨b, n, none⟩) (.inl rfl) _
theorem new_word (w : World) (v : Int) (c : Nat) (hv : v = (c : Int)) : (w.alloc (.cells #[.int .u32 v] 40)).cell? ⟨w.heap.size, 0, none⟩ = some (wordV c) := by
  subst hv
  exact (Whole.new w 40 _).cell 0
/-- A new row with room. -/
theorem make_words (n : Nat) (hn : n ≤ 100000) : ∃ cs : Array Value, cs.size = n ∧ ∀ w : World, Sem.run Tryd.prog (Instr.makeSlice 31 (Value.int IntKind.i64 0) (Value.int IntKind.i64 (n : Int))) w = .ok (.slice (some ⟨w.heap.size, 0, none⟩) 0 n) (w.alloc (.cells cs 40)) := by
  obtain ⟨i, hi, hs, hz, hb⟩ := info40
  refine ⟨madeCells (Value.int .u32 0).cells ((n : Int).toNat * i.size), by rw [size_madeCells, hs]; simp, fun w => ?_⟩
  have := run_makeSlice (P := Tryd.prog) w 31 40 i (.int .u32 0) Tryd.underlying31 hi hz .i64 .i64 0 n (by omega) (by omega) (by rw [hs]; omega) (by rw [hb]; omega) (by omega)
  exact this

/-- The number of these words. -/
def wval : List Nat → Nat
  | [] => 0
  | x :: r => x + 4294967296 * wval r
theorem wval_append (l m : List Nat) : wval (l ++ m) = wval l + 4294967296 ^ l.length * wval m := by
  induction l with
  | nil => simp [wval]
  | cons x r ih =>
    simp only [List.cons_append, wval, ih, List.length_cons, Nat.pow_succ, Nat.mul_add]
    rw [Nat.add_assoc, ← Nat.mul_assoc, Nat.mul_comm 4294967296 (4294967296 ^ r.length)]
theorem wval_take (l : List Nat) (i : Nat) (h : i < l.length) : wval (l.take (i + 1)) = wval (l.take i) + 4294967296 ^ i * l[i] := by
  rw [List.take_succ_eq_append_getElem h, wval_append, List.length_take, Nat.min_eq_left (by omega)]
  simp [wval]
/-- A number at p. -/
def NatAt (w : World) (p : Option Addr) (xs : List Nat) : Prop := (∀ x ∈ xs, x < 4294967296) ∧ ∀ i (h : i < xs.length), ∃ g, p = some ⟨g, 0, none⟩ ∧ g < w.heap.size ∧ w.cell? ⟨g, i, none⟩ = some (wordV xs[i])
theorem NatAt.below {w w' : World} {p : Option Addr} {xs : List Nat} (h : NatAt w p xs) (k : Below w.heap.size w w') : NatAt w' p xs :=
  ⟨h.1, fun i hi => by
    obtain ⟨g, hp, hg, hc⟩ := h.2 i hi
    exact ⟨g, hp, Nat.lt_of_lt_of_le hg k.size, (World.cell?_of_block (a := ⟨g, i, none⟩) (k.block g hg)).trans hc⟩⟩
theorem NatAt.of_wb {w : World} {b cap : Nat} {l : List Nat} (h : WB w b cap l) (hl : ∀ x ∈ l, x < 4294967296) : NatAt w (some ⟨b, 0, none⟩) l := ⟨hl, fun i hi => ⟨b, rfl, h.lt, h.cell i hi⟩⟩
/-- One round: a word times a small number, the carry put to it. -/
theorem step_carry (c x by' : Nat) (hc : c < 4294967296) (hx : x < 4294967296) (hb : by' < 4294967296) : c + x * by' < 18446744073709551616 ∧ (c + x * by') / 4294967296 < 4294967296 := by
  have h : x * by' ≤ 4294967295 * 4294967295 := Nat.mul_le_mul (by omega) (by omega)
  omega
end Go.Proofs.YtnfddblpenninaaDoor
/- A number times a small one and a small one more. -/
namespace Go.Proofs.YtnfddblpenninaaDoor
open Go.RowKit

/-- What 'times' has done before round i. -/
def Mul (w1 wr : World) (b cap by' more i : Nat) (xs ys : List Nat) (c : Nat) : Prop :=
  WB wr b cap ys ∧ Keeps (fun k => k = b) w1 wr ∧ (∀ y ∈ ys, y < 4294967296) ∧ c < 4294967296 ∧ wval ys + 4294967296 ^ i * c = wval (xs.take i) * by' + more
theorem Mul.next {w1 wr w2 : World} {b cap by' more i : Nat} {xs ys : List Nat} {c : Nat} (h : Mul w1 wr b cap by' more i xs ys c) (hi : i < xs.length) (hy : ys.length = i) (hx : xs[i] < 4294967296) (hb : by' < 4294967296)
    (hw : WB w2 b cap (ys ++ [(c + xs[i] * by') % 4294967296])) (hk : Keeps (fun k => k = b) w1 w2) : Mul w1 w2 b cap by' more (i + 1) xs (ys ++ [(c + xs[i] * by') % 4294967296]) ((c + xs[i] * by') / 4294967296) := by
  obtain ⟨_, _, h3, h4, h5⟩ := h
  refine ⟨hw, hk, ?_, (step_carry c xs[i] by' h4 hx hb).2, ?_⟩
  · intro y hm
    rcases List.mem_append.1 hm with hm | hm
    · exact h3 y hm
    · rw [List.mem_singleton.1 hm]
      exact Nat.mod_lt _ (by decide)
  · rw [wval_append, hy, wval_take xs i hi, Nat.add_mul, Nat.pow_succ, Nat.mul_assoc, Nat.mul_assoc]
    have hd := Nat.div_add_mod (c + xs[i] * by') 4294967296
    have he : 4294967296 ^ i * wval [(c + xs[i] * by') % 4294967296] + 4294967296 ^ i * (4294967296 * ((c + xs[i] * by') / 4294967296)) = 4294967296 ^ i * (c + xs[i] * by') := by
      rw [← Nat.mul_add]
      congr 1
      simp only [wval]
      omega
    rw [Nat.add_assoc, he, Nat.mul_add]
    omega

set_option maxRecDepth 100000 in
set_option maxHeartbeats 4000000 in
theorem times_walk (p : Option Addr) (cp : Nat) (xs : List Nat) (by' more : Nat) (w : World) (h : NatAt w p xs) (n : Nat) (hn : xs.length = n) (hn1 : n ≤ 10000) (hb : by' < 4294967296) (hm : more < 4294967296) :
    Calls Tryd.prog 14 #[.slice p n cp, .int .u32 (by' : Int), .int .u32 (more : Int)] w fun e w' => ∃ (q : Option Addr) (c : Nat) (ys : List Nat), e = .returned (.slice q ys.length c) ∧ (NatAt w' q ys ∧ ys.length ≤ c) ∧ wval ys = wval xs * by' + more ∧ ys.length ≤ n + 1 ∧ Below w.heap.size w w' := by
  obtain ⟨cs, hcs, hmk0⟩ := make_words (n + 1) (by omega)
  have hmk : Sem.run Tryd.prog (Instr.makeSlice 31 (Value.int IntKind.i64 0) (Value.int IntKind.i64 ((n : Int) + 1))) w = _ := hmk0 w
  clear hmk0
  have HH := Lib.hid (And.intro h (And.intro hn hcs))
  clear h hn hcs
  go_enter Tryd.func14, Tryd.ntmps14
  go_wp2_with fail
  go_loopw [7, 8, 19] (fun vo vc vi wr => ∃ (i c : Nat) (ys : List Nat), vi = .int .i64 i ∧ i ≤ n ∧ vc = .int .u64 c ∧ vo = .slice (some ⟨w.heap.size, 0, none⟩) i (n + 1) ∧ Hid (ys.length = i ∧ Mul (w.alloc (Obj.cells cs 40)) wr w.heap.size (n + 1) by' more i xs ys c)) (fun _ _ i _ => n - (intOf i).toNat)
  case atStart =>
    refine ⟨0, more, [], rfl, Nat.zero_le _, rfl, rfl, Lib.hid ⟨rfl, ⟨cs, Whole.new w 40 cs, HH.out.2.2, by simp, fun i hi => by simp at hi⟩, Keeps.refl _ _, by simp, hm, ?_⟩⟩
    simp [wval]
  case round =>
    obtain ⟨i, c, ys, rfl, hi, rfl, rfl, hM⟩ := hrel
    by_cases hin : i < n
    · have hix : i < xs.length := by rw [HH.out.2.1]; exact hin
      obtain ⟨g, hp, hg, hcell⟩ := HH.out.1.2 i hix
      obtain ⟨x, hx⟩ : ∃ x, x = xs[i] := ⟨_, rfl⟩
      rw [← hx] at hcell
      have hxl : x < 4294967296 := by rw [hx]; exact HH.out.1.1 _ (List.getElem_mem _)
      have hst := step_carry c x by' hM.out.2.2.2.2.1 hxl hb
      have hI1 : 0 ≤ (x : Int) * (by' : Int) := Int.mul_nonneg (by omega) (by omega)
      have hI2 : (c : Int) + (x : Int) * (by' : Int) ≤ 18446744073709551615 := by
        have : ((c + x * by' : Nat) : Int) < ((18446744073709551616 : Nat) : Int) := Int.ofNat_lt.2 hst.1
        rw [Int.natCast_add, Int.natCast_mul] at this
        omega
      have kW : Keeps (fun k => k = w.heap.size) (w.alloc (Obj.cells cs 40)) wr := hM.out.2.2.1
      have hcr : wr.cell? ⟨g, i, none⟩ = some (.int .u32 (x : Int)) := by
        rw [kW.cell (p := ⟨g, i, none⟩) (by simp; omega) (by simp; omega)]
        exact (((Keeps.refl (fun _ => False) w).alloc _).cell (p := ⟨g, i, none⟩) hg id).trans hcell
      subst hp
      have HX := Lib.hid (And.intro hx (And.intro hxl (And.intro hst (And.intro kW hg))))
      clear hx hcell kW hst hg
      go_wp2_with (first | (at_builtin; refine wpList_push rfl _ _ rfl rfl w.heap.size i (n + 1) ys ((c + x * by') % 4294967296) ⟨wr.heap.size, 0, none⟩ rfl rfl (hM.out.2.1.keep ((Keeps.refl (fun _ => False) wr).alloc _) id) hM.out.1 (by omega) (new_word wr _ _ (by rw [Int.natCast_emod, Int.natCast_add, Int.natCast_mul]; rfl)) ?_; intro w2 hB2 hK2; have H2 := Lib.hid (And.intro hB2 hK2); clear hB2 hK2))
      have hx := HX.out.1
      subst hx
      refine ⟨⟨i + 1, (c + xs[i] * by') / 4294967296, ys ++ [(c + xs[i] * by') % 4294967296], by go_num, by omega, ?_, rfl, Lib.hid ⟨by rw [List.length_append, hM.out.1]; rfl, hM.out.2.next hix hM.out.1 HX.out.2.1 hb H2.out.1 (HX.out.2.2.2.1.trans (((Keeps.refl (fun k => k = w.heap.size) wr).alloc _).trans H2.out.2))⟩⟩, by simp [intOf]; omega⟩
      rw [Int.natCast_ediv, Int.natCast_add, Int.natCast_mul]
      rfl
    · obtain rfl : i = n := by omega
      obtain ⟨h1, h2, h3, h4, h5, h6⟩ := hM.out
      have htk : xs.take i = xs := List.take_of_length_le (by rw [HH.out.2.1]; exact Nat.le_refl _)
      rw [htk] at h6
      have hs1 : w.heap.size ≤ wr.heap.size := by have := h3.size; simp at this; omega
      have kw : Keeps (fun _ => False) w wr := ⟨h3.os, h3.tape, h3.output, hs1, fun k hk _ => (h3.block k (by simp; omega) (by omega)).trans (Below.heap_alloc w _ k hk)⟩
      have H6 := Lib.hid (And.intro h1 (And.intro h2 (And.intro kw (And.intro h4 h6))))
      have hMM := Lib.hid hM
      clear h1 h2 h3 h4 h6 htk kw hM hMM
      rcases Nat.eq_zero_or_pos c with rfl | hc
      · go_wp2_with fail
        go_returns
        refine ⟨some ⟨w.heap.size, 0, none⟩, i + 1, ys, by rw [H6.out.1]; rfl, ⟨NatAt.of_wb H6.out.2.1 H6.out.2.2.2.1, by rw [H6.out.1]; omega⟩, ?_, by rw [H6.out.1]; omega, H6.out.2.2.1.below (Nat.le_refl _) (fun _ h => h.elim)⟩
        have := H6.out.2.2.2.2
        omega
      · go_wp2_with (first | (at_builtin; refine wpList_push rfl _ _ rfl rfl w.heap.size i (i + 1) ys c ⟨wr.heap.size, 0, none⟩ rfl rfl (H6.out.2.1.keep ((Keeps.refl (fun _ => False) wr).alloc _) id) H6.out.1 (by omega) (new_word wr _ _ (by omega)) ?_; intro w2 hB2 hK2; have H2 := Lib.hid (And.intro hB2 hK2); clear hB2 hK2))
        go_returns
        have hlen : (ys ++ [c]).length = i + 1 := by rw [List.length_append, H6.out.1]; rfl
        have hkk : Keeps (fun k => k = w.heap.size) wr w2 := ((Keeps.refl (fun k => k = w.heap.size) wr).alloc _).trans H2.out.2
        refine ⟨some ⟨w.heap.size, 0, none⟩, i + 1, ys ++ [c], by rw [hlen]; rfl, ⟨NatAt.of_wb H2.out.1 ?_, by rw [hlen]; omega⟩, ?_, by rw [hlen]; omega, (H6.out.2.2.1.below (Nat.le_refl _) (fun _ h => h.elim)).trans (hkk.below hs1 (by rintro k rfl; exact Nat.le_refl _))⟩
        · intro y hy
          rcases List.mem_append.1 hy with hy | hy
          · exact H6.out.2.2.2.1 y hy
          · rw [List.mem_singleton.1 hy]
            exact h5
        · rw [wval_append, H6.out.1, ← H6.out.2.2.2.2]
          simp [wval]
#print axioms times_walk
end Go.Proofs.YtnfddblpenninaaDoor
/- A number times powers of two and of ten. -/
namespace Go.Proofs.YtnfddblpenninaaDoor
open Go.RowKit

/-- A number is handed back. -/
def NEnd (w : World) (N k : Nat) (e : Ending) (w' : World) : Prop := ∃ (q : Option Addr) (c : Nat) (ys : List Nat), e = .returned (.slice q ys.length c) ∧ (NatAt w' q ys ∧ ys.length ≤ c) ∧ wval ys = N ∧ ys.length ≤ k ∧ Below w.heap.size w w'
theorem below_lower {B C : Nat} {w w' : World} (h : Below B w w') (hc : C ≤ B) : Below C w w' := ⟨h.os, h.tape, h.output, h.size, fun i hi => h.block i (Nat.lt_of_lt_of_le hi hc)⟩
theorem below_next {w0 w w' : World} (h : Below w0.heap.size w0 w) (k : Below w.heap.size w w') : Below w0.heap.size w0 w' := h.trans (below_lower k h.size)

/-- The number as it stands: what is left to be shifted. -/
def Left (w wr : World) (p : Option Addr) (ys : List Nat) (F G k c : Nat) : Prop := (NatAt wr p ys ∧ ys.length ≤ c) ∧ wval ys * F = G ∧ ys.length ≤ k ∧ Below w.heap.size w wr

set_option maxRecDepth 100000 in
set_option maxHeartbeats 4000000 in
theorem shifted_walk (p : Option Addr) (cp : Nat) (xs : List Nat) (n : Nat) (w : World) (h : NatAt w p xs) (l : Nat) (hl : xs.length = l) (hl1 : l ≤ 3000) (hcp : l ≤ cp) (hn : n ≤ 3000) :
    Calls Tryd.prog 29 #[.slice p l cp, .int .i64 (n : Int)] w (NEnd w (wval xs * 2 ^ n) (l + n + 1)) := by
  have HH := Lib.hid (And.intro h (And.intro hl hcp))
  clear h hl hcp
  go_enter Tryd.func29, Tryd.ntmps29
  go_wp2_with fail
  go_loopw [0, 1] (fun vx vn wr => ∃ (m : Nat) (q : Option Addr) (c k : Nat) (ys : List Nat), vn = .int .i64 m ∧ vx = .slice q k c ∧ m ≤ n ∧ Hid (ys.length = k ∧ Left w wr q ys (2 ^ m) (wval xs * 2 ^ n) (l + (n - m)) c)) (fun _ vn _ => (intOf vn).toNat)
  case atStart => exact ⟨n, p, cp, l, xs, rfl, rfl, Nat.le_refl _, Lib.hid ⟨HH.out.2.1, ⟨HH.out.1, by rw [HH.out.2.1]; exact HH.out.2.2⟩, rfl, by rw [HH.out.2.1]; omega, Below.refl _ _⟩⟩
  case round =>
    obtain ⟨m, q, c, k, ys, rfl, rfl, hm, hM⟩ := hrel
    by_cases hm31 : 31 ≤ m
    · have hk : k ≤ 10000 := by have := hM.out.2.2.2.1; rw [hM.out.1] at this; omega
      have c14 : Calls Tryd.prog 14 #[.slice q k c, .int .u32 2147483648, .int .u32 0] wr _ := times_walk q c ys 2147483648 0 wr hM.out.2.1.1 k hM.out.1 hk (by omega) (by omega)
      have C14 := Lib.hid c14
      clear c14
      go_wp2_with (first | (go_at_call 14; refine C14.out.mono ?_; rintro e w2 ⟨q2, c2, zs, rfl, h1, h2, h3, h4⟩; have H2 := Lib.hid (And.intro h1 (And.intro h2 (And.intro h3 h4))); clear h1 h2 h3 h4))
      have h2 := H2.out
      have hpow : 2147483648 * 2 ^ (m - 31) = 2 ^ m := by rw [show (2147483648 : Nat) = 2 ^ 31 from rfl, ← Nat.pow_add]; congr 1; omega
      have hv : wval zs * 2 ^ (m - 31) = wval xs * 2 ^ n := by rw [h2.2.1, Nat.add_zero, Nat.mul_assoc, hpow]; exact hM.out.2.2.1
      have hlk := hM.out.2.2.2.1
      rw [hM.out.1] at hlk
      exact ⟨⟨m - 31, q2, c2, zs.length, zs, by go_num, rfl, by omega, Lib.hid ⟨rfl, h2.1, hv, by omega, below_next hM.out.2.2.2.2 h2.2.2.2⟩⟩, by simp [intOf]; omega⟩
    · have hk : k ≤ 10000 := by have := hM.out.2.2.2.1; rw [hM.out.1] at this; omega
      have hp31 : 2 ^ m < 2 ^ 31 := Nat.pow_lt_pow_right (by decide) (by omega)
      have hp32 : 2 ^ m < 4294967296 := Nat.lt_trans hp31 (by decide)
      have hi : ((2 : Int) ^ m % 4294967296) = ((2 ^ m : Nat) : Int) := by
        have : ((2 ^ m : Nat) : Int) = (2 : Int) ^ m := by simp
        rw [← this]
        exact Int.emod_eq_of_lt (Int.natCast_nonneg _) (Int.ofNat_lt.2 hp32)
      have c14 := times_walk q c ys (2 ^ m) 0 wr hM.out.2.1.1 k hM.out.1 hk hp32 (by omega)
      rw [← hi] at c14
      have C14 := Lib.hid c14
      clear c14 hp31 hp32 hi
      go_wp2_with (first | (go_at_call 14; refine C14.out.mono ?_; rintro e w2 ⟨q2, c2, zs, rfl, h1, h2, h3, h4⟩; have H2 := Lib.hid (And.intro h1 (And.intro h2 (And.intro h3 h4))); clear h1 h2 h3 h4))
      go_returns
      have h2 := H2.out
      have hlk := hM.out.2.2.2.1
      rw [hM.out.1] at hlk
      exact ⟨q2, c2, zs, rfl, h2.1, by rw [h2.2.1, Nat.add_zero]; exact hM.out.2.2.1, by omega, below_next hM.out.2.2.2.2 h2.2.2.2⟩
#print axioms shifted_walk

set_option maxRecDepth 100000 in
set_option maxHeartbeats 4000000 in
theorem tens_walk (p : Option Addr) (cp : Nat) (xs : List Nat) (n : Nat) (w : World) (h : NatAt w p xs) (l : Nat) (hl : xs.length = l) (hl1 : l ≤ 3000) (hcp : l ≤ cp) (hn : n ≤ 3000) :
    Calls Tryd.prog 28 #[.slice p l cp, .int .i64 (n : Int)] w (NEnd w (wval xs * 10 ^ n) (l + n + 1)) := by
  have HH := Lib.hid (And.intro h (And.intro hl hcp))
  clear h hl hcp
  go_enter Tryd.func28, Tryd.ntmps28
  go_wp2_with fail
  go_loopw [0, 1] (fun vx vn wr => ∃ (m : Nat) (q : Option Addr) (c k : Nat) (ys : List Nat), vn = .int .i64 m ∧ vx = .slice q k c ∧ m ≤ n ∧ Hid (ys.length = k ∧ Left w wr q ys (10 ^ m) (wval xs * 10 ^ n) (l + (n - m)) c)) (fun _ vn _ => (intOf vn).toNat)
  case atStart => exact ⟨n, p, cp, l, xs, rfl, rfl, Nat.le_refl _, Lib.hid ⟨HH.out.2.1, ⟨HH.out.1, by rw [HH.out.2.1]; exact HH.out.2.2⟩, rfl, by rw [HH.out.2.1]; omega, Below.refl _ _⟩⟩
  case round =>
    obtain ⟨m, q, c, k, ys, rfl, rfl, hm, hM⟩ := hrel
    by_cases hm31 : 9 ≤ m
    · have hk : k ≤ 10000 := by have := hM.out.2.2.2.1; rw [hM.out.1] at this; omega
      have c14 : Calls Tryd.prog 14 #[.slice q k c, .int .u32 1000000000, .int .u32 0] wr _ := times_walk q c ys 1000000000 0 wr hM.out.2.1.1 k hM.out.1 hk (by omega) (by omega)
      have C14 := Lib.hid c14
      clear c14
      go_wp2_with (first | (go_at_call 14; refine C14.out.mono ?_; rintro e w2 ⟨q2, c2, zs, rfl, h1, h2, h3, h4⟩; have H2 := Lib.hid (And.intro h1 (And.intro h2 (And.intro h3 h4))); clear h1 h2 h3 h4))
      have h2 := H2.out
      have hpow : 1000000000 * 10 ^ (m - 9) = 10 ^ m := by rw [show (1000000000 : Nat) = 10 ^ 9 from rfl, ← Nat.pow_add]; congr 1; omega
      have hv : wval zs * 10 ^ (m - 9) = wval xs * 10 ^ n := by rw [h2.2.1, Nat.add_zero, Nat.mul_assoc, hpow]; exact hM.out.2.2.1
      have hlk := hM.out.2.2.2.1
      rw [hM.out.1] at hlk
      exact ⟨⟨m - 9, q2, c2, zs.length, zs, by go_num, rfl, by omega, Lib.hid ⟨rfl, h2.1, hv, by omega, below_next hM.out.2.2.2.2 h2.2.2.2⟩⟩, by simp [intOf]; omega⟩
    · go_wp2_with fail
      go_loopw [0, 1] (fun vx vn wr => ∃ (m : Nat) (q : Option Addr) (c k : Nat) (ys : List Nat), vn = .int .i64 m ∧ vx = .slice q k c ∧ m ≤ n ∧ Hid (ys.length = k ∧ Left w wr q ys (10 ^ m) (wval xs * 10 ^ n) (l + (n - m)) c)) (fun _ vn _ => (intOf vn).toNat)
      case atStart => exact ⟨m, q, c, k, ys, rfl, rfl, hm, hM⟩
      case round =>
        clear hM hm hm31
        clear ys
        obtain ⟨m, q, c, k, ys, rfl, rfl, hm, hM⟩ := hrel
        have hk : k ≤ 10000 := by have := hM.out.2.2.2.1; rw [hM.out.1] at this; omega
        rcases Nat.eq_zero_or_pos m with rfl | hm0
        · go_wp2_with fail
          go_returns
          have h1 := hM.out.1
          subst h1
          have hlk := hM.out.2.2.2.1
          exact ⟨q, c, ys, rfl, hM.out.2.1, by have := hM.out.2.2.1; rw [Nat.pow_zero, Nat.mul_one] at this; exact this, by omega, hM.out.2.2.2.2⟩
        · have c14 : Calls Tryd.prog 14 #[.slice q k c, .int .u32 10, .int .u32 0] wr _ := times_walk q c ys 10 0 wr hM.out.2.1.1 k hM.out.1 hk (by omega) (by omega)
          have C14 := Lib.hid c14
          clear c14
          go_wp2_with (first | (go_at_call 14; refine C14.out.mono ?_; rintro e w2 ⟨q2, c2, zs, rfl, h1, h2, h3, h4⟩; have H2 := Lib.hid (And.intro h1 (And.intro h2 (And.intro h3 h4))); clear h1 h2 h3 h4))
          have h2 := H2.out
          have hpow : 10 * 10 ^ (m - 1) = 10 ^ m := by rw [Nat.mul_comm, ← Nat.pow_succ]; congr 1; omega
          have hv : wval zs * 10 ^ (m - 1) = wval xs * 10 ^ n := by rw [h2.2.1, Nat.add_zero, Nat.mul_assoc, hpow]; exact hM.out.2.2.1
          have hlk := hM.out.2.2.2.1
          rw [hM.out.1] at hlk
          exact ⟨⟨m - 1, q2, c2, zs.length, zs, by go_num, rfl, by omega, Lib.hid ⟨rfl, h2.1, hv, by omega, below_next hM.out.2.2.2.2 h2.2.2.2⟩⟩, by simp [intOf]; omega⟩
#print axioms tens_walk
end Go.Proofs.YtnfddblpenninaaDoor
/- Numbers compared: the law. -/
namespace Go.Proofs.YtnfddblpenninaaDoor
open Go.RowKit

theorem wval_lt : ∀ (l : List Nat), (∀ x ∈ l, x < 4294967296) → wval l < 4294967296 ^ l.length
  | [], _ => by simp [wval]
  | x :: r, h => by
    have h1 := h x (by simp)
    have h2 := wval_lt r (fun y hy => h y (by simp [hy]))
    simp only [wval, List.length_cons, Nat.pow_succ]
    omega
theorem take_words {xs : List Nat} (h : ∀ x ∈ xs, x < 4294967296) (k : Nat) : ∀ x ∈ xs.take k, x < 4294967296 := fun x hx => h x (List.mem_of_mem_take hx)
theorem wval_take_lt {xs : List Nat} (h : ∀ x ∈ xs, x < 4294967296) (k : Nat) (hk : k ≤ xs.length) : wval (xs.take k) < 4294967296 ^ k := by
  have := wval_lt (xs.take k) (take_words h k)
  rwa [List.length_take, Nat.min_eq_left hk] at this
/-- The number's greatest word is not 0 (or there is none). -/
def Trim (xs : List Nat) (k : Nat) : Prop := k ≤ xs.length ∧ (k = 0 ∨ ∃ h : k - 1 < xs.length, xs[k - 1] ≠ 0) ∧ wval (xs.take k) = wval xs
theorem Trim.ge {xs : List Nat} {k : Nat} (h : Trim xs (k + 1)) : 4294967296 ^ k ≤ wval xs := by
  obtain ⟨h1, h2, h3⟩ := h
  rcases h2 with h2 | ⟨h2, h4⟩
  · omega
  · have h5 : xs[k] ≠ 0 := h4
    rw [← h3, wval_take xs k (by omega)]
    have := Nat.le_mul_of_pos_right (4294967296 ^ k) (Nat.pos_of_ne_zero h5)
    omega
theorem trim_lt {xs ys : List Nat} {k m : Nat} (hx : ∀ x ∈ xs, x < 4294967296) (h : Trim xs k) (h' : Trim ys m) (hk : k < m) : wval xs < wval ys := by
  obtain ⟨j, rfl⟩ : ∃ j, m = j + 1 := ⟨m - 1, by omega⟩
  have h1 := h'.ge
  have h2 := wval_take_lt hx k h.1
  rw [h.2.2] at h2
  exact Nat.lt_of_lt_of_le h2 (Nat.le_trans (Nat.pow_le_pow_right (by decide) (by omega)) h1)
/-- Words of two numbers from i on are the same. -/
def Same (xs ys : List Nat) (k i : Nat) : Prop := ∀ j, i ≤ j → j < k → xs[j]? = ys[j]?
theorem lt_at {xs ys : List Nat} {k : Nat} (hx : ∀ x ∈ xs, x < 4294967296) (hk : k ≤ xs.length) (hk' : k ≤ ys.length) (i : Nat) (hi : i < k) (hs : Same xs ys k (i + 1)) (hlt : xs[i] < ys[i]) : wval (xs.take k) < wval (ys.take k) := by
  have key : ∀ d, i + 1 + d ≤ k → wval (xs.take (i + 1 + d)) < wval (ys.take (i + 1 + d)) := by
    intro d
    induction d with
    | zero =>
      intro _
      show wval (xs.take (i + 1)) < wval (ys.take (i + 1))
      rw [wval_take xs i (by omega), wval_take ys i (by omega)]
      have h1 := wval_take_lt hx i (by omega)
      have h2 : 4294967296 ^ i * (xs[i] + 1) ≤ 4294967296 ^ i * ys[i] := Nat.mul_le_mul_left _ hlt
      rw [Nat.mul_add, Nat.mul_one] at h2
      omega
    | succ d ih =>
      intro hd
      have h1 := ih (by omega)
      have h2 : xs[i + 1 + d]'(by omega) = ys[i + 1 + d]'(by omega) := by
        have := hs (i + 1 + d) (by omega) (by omega)
        rw [List.getElem?_eq_getElem (by omega), List.getElem?_eq_getElem (by omega)] at this
        exact Option.some.inj this
      rw [show i + 1 + (d + 1) = i + 1 + d + 1 by omega, wval_take xs (i + 1 + d) (by omega), wval_take ys (i + 1 + d) (by omega), h2]
      omega
  have := key (k - (i + 1)) (by omega)
  rwa [show i + 1 + (k - (i + 1)) = k by omega] at this
theorem same_all {xs ys : List Nat} {k : Nat} (hs : Same xs ys k 0) : xs.take k = ys.take k := by
  apply List.ext_getElem?
  intro j
  rw [List.getElem?_take, List.getElem?_take]
  split
  · exact hs j (Nat.zero_le _) (by assumption)
  · rfl
theorem Same.down {xs ys : List Nat} {k i : Nat} (hs : Same xs ys k (i + 1)) (h1 : i < xs.length) (h2 : i < ys.length) (he : xs[i] = ys[i]) : Same xs ys k i := by
  intro j hj hk
  rcases Nat.eq_or_lt_of_le hj with rfl | hj
  · rw [List.getElem?_eq_getElem h1, List.getElem?_eq_getElem h2, he]
  · exact hs j hj hk
/-- How two numbers stand. -/
def cmpN (a b : Nat) : Int := if a < b then -1 else if a = b then 0 else 1
theorem cmp_lt {a b : Nat} (h : a < b) : cmpN a b = -1 := if_pos h
theorem cmp_gt {a b : Nat} (h : b < a) : cmpN a b = 1 := by
  unfold cmpN
  rw [if_neg (by omega), if_neg (by omega)]
theorem cmp_eq {a b : Nat} (h : a = b) : cmpN a b = 0 := by
  unfold cmpN
  rw [if_neg (by omega), if_pos h]
/-- What a loop that strips zeros knows. -/
def Strip (xs : List Nat) (k : Nat) : Prop := k ≤ xs.length ∧ wval (xs.take k) = wval xs
theorem Strip.start (xs : List Nat) : Strip xs xs.length := ⟨Nat.le_refl _, by rw [List.take_length]⟩
theorem Strip.down {xs : List Nat} {k : Nat} (h : Strip xs (k + 1)) (hk : k < xs.length) (h0 : xs[k] = 0) : Strip xs k := ⟨by omega, by rw [← h.2, wval_take xs k hk, h0]; simp⟩
theorem Strip.zero {xs : List Nat} (h : Strip xs 0) : Trim xs 0 := ⟨h.1, .inl rfl, h.2⟩
theorem Strip.stop {xs : List Nat} {k : Nat} (h : Strip xs (k + 1)) (hk : k < xs.length) (h0 : xs[k] ≠ 0) : Trim xs (k + 1) := ⟨h.1, .inr ⟨hk, h0⟩, h.2⟩
/-- Whether a zero is to be stripped. -/
def more (xs : List Nat) (k : Nat) : Bool := decide (0 < k) && (xs[k - 1]? == some 0)
theorem more_yes {xs : List Nat} {k : Nat} (h : more xs k = true) (hs : Strip xs k) : ∃ j, k = j + 1 ∧ Strip xs j := by
  simp only [more, Bool.and_eq_true, decide_eq_true_eq, beq_iff_eq] at h
  obtain ⟨j, rfl⟩ : ∃ j, k = j + 1 := ⟨k - 1, by omega⟩
  have h2 : xs[j]? = some 0 := h.2
  obtain ⟨hj, h0⟩ := List.getElem?_eq_some_iff.1 h2
  exact ⟨j, rfl, hs.down hj h0⟩
theorem more_no {xs : List Nat} {k : Nat} (h : more xs k = false) (hs : Strip xs k) : Trim xs k := by
  cases k with
  | zero => exact hs.zero
  | succ k =>
    have hk : k < xs.length := by have := hs.1; omega
    refine hs.stop hk (fun h0 => ?_)
    simp [more, List.getElem?_eq_getElem hk, h0] at h
end Go.Proofs.YtnfddblpenninaaDoor
