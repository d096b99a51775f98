/- The buffer of an event: 500 bytes, the first of which are the text so far; appends to it. -/
import Derived.Test.YtpenbgiobeebiaaGreatDoorMem
import Derived.Test.YtpenbgiobeebiaaGreatDoorKeep
import Derived.Test.YtpenbgiobeebiaaGreatDoorLevC
import Derived.Deep.RegionHeld3
import Derived.Deep.AppendLies
import Derived.Deep.DeepCutAuto
import Derived.Deep.RegionLaw
import Derived.OwnWalk
import Derived.OneCell
import Derived.Lib.AppendZeros
import Derived.Lib.LazyBuf
import Derived.Lib.AppendStr
import Derived.ArgAppend
import Derived.BigQuiet
import Derived.LoopTactic
namespace Go.Proofs.YtpenbgiobeebiaaGreatDoor
open Go.RowKit

def byteV (c : UInt8) : Value := .int .u8 (c.toNat : Int)
/-- Block b is 500 bytes, the first of which are l. -/
def Buf (w : World) (b : Nat) (l : List UInt8) : Prop :=
  ∃ cs : Array Value, Whole w b 5 cs ∧ cs.size = 500 ∧ l.length ≤ 500 ∧ ∀ i (h : i < l.length), cs[i]? = some (byteV l[i])

theorem Buf.le {w : World} {b : Nat} {l : List UInt8} (h : Buf w b l) : l.length ≤ 500 := by obtain ⟨_, _, _, h, _⟩ := h; exact h
theorem Buf.lt {w : World} {b : Nat} {l : List UInt8} (h : Buf w b l) : b < w.heap.size := by obtain ⟨_, h, _⟩ := h; exact h.lt
theorem Buf.at {w : World} {b : Nat} {l : List UInt8} (h : Buf w b l) (i : Nat) (hi : i < 500) : (w.cell? ⟨b, i, none⟩).isSome = true := by
  obtain ⟨cs, hw, hs, _, _⟩ := h
  rw [hw.cell, Array.getElem?_eq_getElem (by omega)]
  rfl
theorem Buf.frozen {w : World} {b : Nat} {l : List UInt8} (h : Buf w b l) (i : Nat) : w.frozen? ⟨b, i, none⟩ = false := by
  obtain ⟨cs, hw, _⟩ := h
  exact hw.frozen i
theorem Buf.cell {w : World} {b : Nat} {l : List UInt8} (h : Buf w b l) (i : Nat) (hi : i < l.length) : w.cell? ⟨b, i, none⟩ = some (byteV l[i]) := by
  obtain ⟨cs, hw, _, _, hc⟩ := h
  rw [hw.cell, hc i hi]
theorem Buf.keep {w w' : World} {b : Nat} {l : List UInt8} {T : Nat → Prop} (h : Buf w b l) (k : Keeps T w w') (hb : ¬ T b) : Buf w' b l := by
  obtain ⟨cs, hw, r⟩ := h
  exact ⟨cs, hw.keep k hb, r⟩
theorem Buf.alloc {w : World} {b : Nat} {l : List UInt8} (h : Buf w b l) (o : Obj) : Buf (w.alloc o) b l := h.keep (T := fun _ => False) ((Keeps.refl _ w).alloc o) id
theorem Buf.put {w : World} {b : Nat} {l : List UInt8} (h : Buf w b l) (c : UInt8) (n : Nat) (hn : l.length = n) (hf : n < 500) : Buf (w.setCell ⟨b, n, none⟩ (byteV c)) b (l ++ [c]) := by
  subst hn
  obtain ⟨cs, hw, hs, hl, hc⟩ := h
  refine ⟨cs.setIfInBounds l.length (byteV c), hw.set l.length _, by simpa using hs, by simp; omega, fun i hi => ?_⟩
  rw [List.length_append, List.length_singleton] at hi
  by_cases hil : i < l.length
  · rw [Array.getElem?_setIfInBounds, if_neg (by omega), hc i hil, List.getElem_append_left hil]
  · obtain rfl : i = l.length := by omega
    rw [Array.getElem?_setIfInBounds, if_pos rfl, if_pos (by omega)]
    simp
theorem Buf.puts {b : Nat} : ∀ (m : List UInt8) {w : World} {l : List UInt8} (n : Nat), Buf w b l → l.length = n → n + m.length ≤ 500 → Buf (w.setCells b n (m.map byteV)) b (l ++ m)
  | [], _, l, _, h, _, _ => by rw [List.append_nil]; exact h
  | c :: m, w, l, n, h, hn, hf => by
    have hf' : n + 1 + m.length ≤ 500 := by simp at hf; omega
    have := Buf.puts m (n + 1) (h.put c n hn (by omega)) (by simp; omega) hf'
    rw [List.append_assoc] at this
    exact this
theorem Keeps.setCells {S : Nat → Prop} {a : World} {b : Nat} : ∀ (vs : List Value) {w : World} (n : Nat), Keeps S a w → (S b ∨ a.heap.size ≤ b) → Keeps S a (w.setCells b n vs)
  | [], _, _, h, _ => h
  | v :: vs, _, n, h, hb => Keeps.setCells vs (n + 1) (h.set (p := ⟨b, n, none⟩) hb v) hb

set_option maxRecDepth 10000 in
theorem info5 : ∃ i, Tryz.prog.info? 5 = some i ∧ i.size = 1 := ⟨_, rfl, rfl⟩
/-- An append that fits: the bytes that a slice holds. -/
theorem buf_append {w : World} {b : Nat} {l m : List UInt8} {n k c : Nat} {a : Addr} (h : Buf w b l) (hk : m.length = k) (hf : n + k ≤ 500) (hm : ∀ j (hj : j < m.length), w.cell? (a.add j) = some (byteV m[j])) :
    (Builtin.append_ #[45, 45] 45 #[.slice (some ⟨b, 0, none⟩) n 500, .slice (some a) k c]).run Tryz.prog w = .ok (.slice (some ⟨b, 0, none⟩) (n + k) 500) (w.setCells b n (m.map byteV)) := by
  obtain ⟨i, hi, hs⟩ := info5
  have := run_append_room_cells (P := Tryz.prog) w 45 45 5 i Tryz.underlying45 hi b 0 n 500 a k c (m.map byteV) (by simp [hk, hs]) (fun j u hu => by
    rw [List.getElem?_map] at hu
    cases hj : m[j]? with
    | none => rw [hj] at hu; cases hu
    | some x =>
      rw [hj] at hu
      obtain ⟨hj', rfl⟩ := List.getElem?_eq_some_iff.1 hj
      rw [hm j hj']
      exact hu) (fun u hu => by
    obtain ⟨x, _, rfl⟩ := List.mem_map.1 hu
    rfl) hf (fun j hj => by
      have hj' : j < m.length := by simpa using hj
      rw [hs]
      exact h.at (0 + n * 1 + j) (by omega)) (fun j _ => h.frozen _)
  rw [hs, Nat.zero_add, Nat.mul_one] at this
  exact this
theorem str_cells (s : ByteArray) (m : List UInt8) (h : s.data.toList = m) : Lib.strCells s = m.map byteV := by
  subst h
  rfl
/-- An append of a text that fits. -/
theorem buf_text {w : World} {b : Nat} {l : List UInt8} {n : Nat} (h : Buf w b l) (s : ByteArray) (m : List UInt8) (k : Nat) (hs : s.data.toList = m) (hk : m.length = k) (hq : n + k ≤ 500) :
    (Builtin.append_ #[45, 9] 45 #[.slice (some ⟨b, 0, none⟩) n 500, .string s]).run Tryz.prog w = .ok (.slice (some ⟨b, 0, none⟩) (n + k) 500) (w.setCells b n (m.map byteV)) := by
  obtain ⟨i, hi, hs1⟩ := info5
  have hz : s.size = k := by rw [← hk, ← hs]; simp
  have hf := Lib.run_firstCells_string (P := Tryz.prog) w 1 s
  have hst := run_storeCells_cells (P := Tryz.prog) b n (m.map byteV) 0 w (fun j hj => by
      have hj' : j < m.length := by simpa using hj
      exact h.at _ (by omega)) (fun j _ => h.frozen _) (fun u hu => by
    obtain ⟨x, _, rfl⟩ := List.mem_map.1 hu
    rfl)
  rw [str_cells s m hs, hz] at hf
  simp only [Nat.add_zero] at hst
  simp [Builtin.append_, run_underlying Tryz.underlying45, run_underlying Tryz.underlying9, sizeOf, typeInfo, hi, hs1, Builtin.lenOf, hq, hf, Addr.add_lit, hst, hz]

/-- An append whose run is known. -/
theorem wpList_app {P : Program} {w w' : World} {ops : Array Oper} {rest : List Oper} {o : Oper} {a : Act} {Q : Exit → Act → World → Prop} (hgd : o.guard = none) (s x : Operand) (t u : TypeId)
    (ho : o.op = .call { callee := .builtin .append, args := #[s, x], argTypes := #[t, u] }) (vs vx v' : Value) (hs : a.eval s = vs) (hx : a.eval x = vx)
    (hr : (Builtin.append_ #[t, u] o.type #[vs, vx]).run P w = .ok v' w') (h : wpList P ops Q rest (a.put o.dst v') w') : wpList P ops Q (o :: rest) a w :=
  wpList_plain hgd fun _ hK => by
    unfold Oper.wp execOp
    simp only [ho, resolve, invoke, builtin, Sem.run_bind, Sem.run_pure, Result.andThen_ok, List.map_toArray, List.map_cons, List.map_nil, hs, hx, hr]
    exact hK _ _ h
/-- A byte more. -/
theorem wpList_push {w : World} {ops : Array Oper} {rest : List Oper} {o : Oper} {a : Act} {Q : Exit → Act → World → Prop} (hgd : o.guard = none) (s x : Operand)
    (ho : o.op = .call { callee := .builtin .append, args := #[s, x], argTypes := #[45, 45] }) (hty : o.type = 45) (b n : Nat) (l : List UInt8) (c : UInt8) (ad : Addr) (hs : a.eval s = .slice (some ⟨b, 0, none⟩) n 500) (hx : a.eval x = .slice (some ad) 1 1)
    (hB : Buf w b l) (hn : l.length = n) (hf : n < 500) (hc : w.cell? ad = some (byteV c))
    (h : ∀ w', Buf w' b (l ++ [c]) → Keeps (fun k => k = b) w w' → wpList Tryz.prog ops Q rest (a.put o.dst (.slice (some ⟨b, 0, none⟩) (n + 1) 500)) w') : wpList Tryz.prog ops Q (o :: rest) a w := by
  have hr := buf_append (w := w) (b := b) (l := l) (m := [c]) (n := n) (k := 1) (c := 1) (a := ad) hB rfl (by omega) (fun j hj => by
    obtain rfl : j = 0 := by simpa using hj
    simpa [Addr.add] using hc)
  refine wpList_app hgd s x 45 45 ho _ _ _ hs hx (by rw [hty]; exact hr) (h _ (hB.puts [c] n hn (by simp; omega)) ?_)
  exact Keeps.setCells [byteV c] n (Keeps.refl (fun k => k = b) w) (.inl rfl)
/-- A text more. -/
theorem wpList_text {w : World} {ops : Array Oper} {rest : List Oper} {o : Oper} {a : Act} {Q : Exit → Act → World → Prop} (hgd : o.guard = none) (s x : Operand)
    (ho : o.op = .call { callee := .builtin .append, args := #[s, x], argTypes := #[45, 9] }) (hty : o.type = 45) (b n k : Nat) (l m : List UInt8) (t : ByteArray) (hs : a.eval s = .slice (some ⟨b, 0, none⟩) n 500) (hx : a.eval x = .string t)
    (hB : Buf w b l) (hn : l.length = n) (hm : t.data.toList = m) (hk : m.length = k) (hf : n + k ≤ 500)
    (h : ∀ w', Buf w' b (l ++ m) → Keeps (fun k => k = b) w w' → wpList Tryz.prog ops Q rest (a.put o.dst (.slice (some ⟨b, 0, none⟩) (n + k) 500)) w') : wpList Tryz.prog ops Q (o :: rest) a w := by
  have hr := buf_text hB t m k hm hk hf
  refine wpList_app hgd s x 45 9 ho _ _ _ hs hx (by rw [hty]; exact hr) (h _ (hB.puts m n hn (by omega)) ?_)
  exact Keeps.setCells (m.map byteV) n (Keeps.refl (fun k => k = b) w) (.inl rfl)
theorem new_byte (w : World) (c : UInt8) (v : Int) (hv : v = (c.toNat : Int)) : (w.alloc (.cells #[.int .u8 v] 5)).cell? ⟨w.heap.size, 0, none⟩ = some (byteV c) := by
  subst hv
  exact (Whole.new w 5 _).cell 0
end Go.Proofs.YtpenbgiobeebiaaGreatDoor
