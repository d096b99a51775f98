/- The buffer of a text that is made: a block of 64 bytes, the first of which are the text so far. -/
import Derived.Test.YtggebombeflmhaaDoorMem
import Derived.Test.YtggebombeflmhaaDoorKeep
import Derived.Test.YtggebombeflmhaaDoorSpaP
import Derived.Test.YtggebombeflmhaaDoorLevP
import Derived.Deep.DeepCutAuto
import Derived.Lib.AppendZeros
import Derived.Lib.LazyBuf
import Derived.ArgAppend
namespace Go.Proofs.YtggebombeflmhaaDoor
open Go.RowKit

def byteV (c : UInt8) : Value := .int .u8 (c.toNat : Int)
/-- Block b is 64 bytes, the first of which are l. -/
def Buf (w : World) (b : Nat) (l : List UInt8) : Prop :=
  ∃ cs : Array Value, ∃ t, Whole w b t cs ∧ cs.size = 64 ∧ l.length ≤ 64 ∧ ∀ i (h : i < l.length), cs[i]? = some (byteV l[i])

theorem Buf.le {w : World} {b : Nat} {l : List UInt8} (h : Buf w b l) : l.length ≤ 64 := by obtain ⟨_, _, _, _, h, _⟩ := h; exact h
theorem Buf.lt {w : World} {b : Nat} {l : List UInt8} (h : Buf w b l) : b < w.heap.size := by obtain ⟨_, _, h, _⟩ := h; exact h.lt
theorem Buf.at {w : World} {b : Nat} {l : List UInt8} (h : Buf w b l) (i : Nat) (hi : i < 64) : (w.cell? ⟨b, i, none⟩).isSome = true := by
  obtain ⟨cs, t, hw, hs, _, _⟩ := h
  rw [hw.cell, Array.getElem?_eq_getElem (by omega)]
  rfl
theorem Buf.frozen {w : World} {b : Nat} {l : List UInt8} (h : Buf w b l) (i : Nat) : w.frozen? ⟨b, i, none⟩ = false := by
  obtain ⟨cs, t, hw, _⟩ := h
  exact hw.frozen i
theorem Buf.cell {w : World} {b : Nat} {l : List UInt8} (h : Buf w b l) (i : Nat) (hi : i < l.length) : w.cell? ⟨b, i, none⟩ = some (byteV l[i]) := by
  obtain ⟨cs, t, hw, _, _, hc⟩ := h
  rw [hw.cell, hc i hi]
theorem Buf.keep {w w' : World} {b : Nat} {l : List UInt8} {T : Nat → Prop} (h : Buf w b l) (k : Keeps T w w') (hb : ¬ T b) : Buf w' b l := by
  obtain ⟨cs, t, hw, r⟩ := h
  exact ⟨cs, t, hw.keep k hb, r⟩
theorem Buf.alloc {w : World} {b : Nat} {l : List UInt8} (h : Buf w b l) (o : Obj) : Buf (w.alloc o) b l := h.keep (T := fun _ => False) ((Keeps.refl _ w).alloc o) id
theorem Buf.put {w : World} {b : Nat} {l : List UInt8} (h : Buf w b l) (c : UInt8) (n : Nat) (hn : l.length = n) (h64 : n < 64) : Buf (w.setCell ⟨b, n, none⟩ (byteV c)) b (l ++ [c]) := by
  subst hn
  obtain ⟨cs, t, hw, hs, hl, hc⟩ := h
  refine ⟨cs.setIfInBounds l.length (byteV c), t, hw.set l.length _, by simpa using hs, by simp; omega, fun i hi => ?_⟩
  rw [List.length_append, List.length_singleton] at hi
  by_cases hil : i < l.length
  · rw [Array.getElem?_setIfInBounds, if_neg (by omega), hc i hil, List.getElem_append_left hil]
  · obtain rfl : i = l.length := by omega
    rw [Array.getElem?_setIfInBounds, if_pos rfl, if_pos (by omega)]
    simp
theorem Buf.puts {b : Nat} : ∀ (m : List UInt8) {w : World} {l : List UInt8} (n : Nat), Buf w b l → l.length = n → n + m.length ≤ 64 → Buf (w.setCells b n (m.map byteV)) b (l ++ m)
  | [], _, l, _, h, _, _ => by rw [List.append_nil]; exact h
  | c :: m, w, l, n, h, hn, h64 => by
    have h64' : n + 1 + m.length ≤ 64 := by simp at h64; omega
    have := Buf.puts m (n + 1) (h.put c n hn (by omega)) (by simp; omega) h64'
    rw [List.append_assoc] at this
    exact this
theorem Keeps.setCells {S : Nat → Prop} {a : World} {b : Nat} : ∀ (vs : List Value) {w : World} (n : Nat), Keeps S a w → (S b ∨ a.heap.size ≤ b) → Keeps S a (w.setCells b n vs)
  | [], _, _, h, _ => h
  | v :: vs, _, n, h, hb => Keeps.setCells vs (n + 1) (h.set (p := ⟨b, n, none⟩) hb v) hb

set_option maxRecDepth 10000 in
theorem info5 : ∃ i, Tryd.prog.info? 5 = some i ∧ i.size = 1 := ⟨_, rfl, rfl⟩
/-- An append that fits: the bytes that a slice holds. -/
theorem buf_append {w : World} {b : Nat} {l m : List UInt8} {n k c : Nat} {a : Addr} (h : Buf w b l) (hk : m.length = k) (h64 : n + k ≤ 64) (hm : ∀ j (hj : j < m.length), w.cell? (a.add j) = some (byteV m[j])) :
    (Builtin.append_ #[43, 43] 43 #[.slice (some ⟨b, 0, none⟩) n 64, .slice (some a) k c]).run Tryd.prog w = .ok (.slice (some ⟨b, 0, none⟩) (n + k) 64) (w.setCells b n (m.map byteV)) := by
  obtain ⟨i, hi, hs⟩ := info5
  have := run_append_room_cells (P := Tryd.prog) w 43 43 5 i Tryd.underlying43 hi b 0 n 64 a k c (m.map byteV) (by simp [hk, hs]) (fun j u hu => by
    rw [List.getElem?_map] at hu
    cases hj : m[j]? with
    | none => rw [hj] at hu; cases hu
    | some x =>
      rw [hj] at hu
      obtain ⟨hj', rfl⟩ := List.getElem?_eq_some_iff.1 hj
      rw [hm j hj']
      exact hu) (fun u hu => by
    obtain ⟨x, _, rfl⟩ := List.mem_map.1 hu
    rfl) h64 (fun j hj => by
      have hj' : j < m.length := by simpa using hj
      rw [hs]
      exact h.at (0 + n * 1 + j) (by omega)) (fun j _ => h.frozen _)
  rw [hs, Nat.zero_add, Nat.mul_one] at this
  exact this
end Go.Proofs.YtggebombeflmhaaDoor
