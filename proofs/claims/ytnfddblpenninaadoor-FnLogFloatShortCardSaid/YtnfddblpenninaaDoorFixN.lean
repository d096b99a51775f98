/- A text that grows: a row of bytes that the call owns, appended to byte by byte. -/
import Derived.Test.YtnfddblpenninaaDoorFixM
namespace Go.Proofs.YtnfddblpenninaaDoor
open Go.RowKit

def byteV (c : UInt8) : Value := .int .u8 (c.toNat : Int)
/-- v is a row of the call's own: the bytes l. -/
def Out (w : World) (base : Nat) (v : Value) (l : List UInt8) : Prop := w.ownsRow base 5 1 v l.length (l.map byteV)
set_option maxRecDepth 10000 in
theorem info5 : ∃ i, Tryd.prog.info? 5 = some i ∧ i.size = 1 ∧ i.zero = some (.int .u8 0) ∧ i.bytes = 1 := ⟨_, rfl, rfl, rfl, rfl⟩
theorem byte_one {l : List UInt8} : ∀ u ∈ l.map byteV, u.oneCell' = true := fun u hu => by
  obtain ⟨c, _, rfl⟩ := List.mem_map.1 hu
  rfl
theorem Out.nil (w : World) (base : Nat) : Out w base (.slice none 0 0) [] := ⟨rfl, .inl ⟨rfl, rfl⟩⟩
theorem below_grown {base : Nat} {w w' : World} {v : Value} (h : w.grownBy w' v.ownBlock) (hv : ∀ g, v.ownBlock = some g → base ≤ g) (hb : base ≤ w.heap.size) : Below base w w' :=
  (Keeps.of_grown (S := fun k => base ≤ k) h fun k hk => hv k hk).below hb fun _ hk => hk
theorem Out.block {w : World} {base : Nat} {v : Value} {l : List UInt8} (h : Out w base v l) : ∀ g, v.ownBlock = some g → base ≤ g ∧ g < w.heap.size := fun g hg => by
  rcases h.2 with ⟨rfl, _⟩ | ⟨g', cap, cur, rfl, hb, hgg, _⟩
  · cases hg
  · injection hg with hg
    subst hg
    exact ⟨hb, (Array.getElem?_eq_some_iff.1 hgg).1⟩
theorem Out.keep {w w' : World} {base : Nat} {v : Value} {l : List UInt8} {S : Nat → Prop} (h : Out w base v l) (k : Keeps S w w') (hS : ∀ g, base ≤ g → g < w.heap.size → ¬ S g) : Out w' base v l :=
  own_keep h k fun g hg => hS g (h.block g hg).1 (h.block g hg).2
theorem Out.alloc {w : World} {base : Nat} {v : Value} {l : List UInt8} (h : Out w base v l) (o : Obj) : Out (w.alloc o) base v l := h.keep ((Keeps.refl (fun _ => False) w).alloc o) (fun _ _ _ h => h)
/-- Some bytes more. -/
theorem out_append (w : World) (base : Nat) (v : Value) (l m : List UInt8) (ad : Addr) (c : Nat) (hO : Out w base v l) (hb : base ≤ w.heap.size) (hl : l.length + m.length ≤ 100000)
    (hc : ∀ j (h : j < m.length), w.cell? (ad.add j) = some (byteV m[j])) :
    ∃ v' w', (Builtin.append_ #[45, 45] 45 #[v, .slice (some ad) m.length c]).run Tryd.prog w = .ok v' w' ∧ Out w' base v' (l ++ m) ∧ Below base w w' := by
  obtain ⟨i, hi, hs, hz, hby⟩ := info5
  obtain ⟨v', w', h1, h2, h3, _⟩ := run_append_own_at (P := Tryd.prog) w base 45 45 5 i (.int .u8 0) 1 1 Tryd.underlying45 hi hz hs hby rfl (by omega) v l.length _ hO ad m.length c (m.map byteV) (by simp) (by
      intro j u hj
      rw [List.getElem?_map] at hj
      obtain ⟨t, ht, rfl⟩ := Option.map_eq_some_iff.1 hj
      obtain ⟨hj', rfl⟩ := List.getElem?_eq_some_iff.1 ht
      exact hc j hj') byte_one (by unfold maxLen; omega) (by omega) hb
  refine ⟨v', w', h1, ?_, below_grown h3 (fun g hg => (hO.block g hg).1) hb⟩
  unfold Out
  rw [List.map_append, List.length_append]
  exact h2
/-- A byte more. -/
theorem wpList_put {w : World} {base : Nat} {ops : Array Oper} {rest : List Oper} {o : Oper} {a : Act} {Q : Exit → Act → World → Prop} (hgd : o.guard = none) (s x : Operand)
    (ho : o.op = .call { callee := .builtin .append, args := #[s, x], argTypes := #[45, 45] }) (hty : o.type = 45) (v : Value) (l : List UInt8) (c : UInt8) (ad : Addr) (hs : a.eval s = v) (hx : a.eval x = .slice (some ad) 1 1)
    (hO : Out w base v l) (hb : base ≤ w.heap.size) (hl : l.length ≤ 50000) (hc : w.cell? ad = some (byteV c))
    (h : ∀ v' w', Out w' base v' (l ++ [c]) → Below base w w' → wpList Tryd.prog ops Q rest (a.put o.dst v') w') : wpList Tryd.prog ops Q (o :: rest) a w := by
  obtain ⟨v', w', h1, h2, h3⟩ := out_append w base v l [c] ad 1 hO hb (by simp; omega) (fun j hj => by
    have hj0 : j = 0 := by simpa using hj
    subst hj0
    rw [show ad.add 0 = ad by simp [Addr.add], hc]
    rfl)
  exact wpList_app hgd s x 45 45 ho _ _ _ hs hx (by rw [hty]; exact h1) (h v' w' h2 h3)
theorem new_byte (w : World) (v : Int) (c : UInt8) (hv : v = (c.toNat : Int)) : (w.alloc (.cells #[.int .u8 v] 5)).cell? ⟨w.heap.size, 0, none⟩ = some (byteV c) := by
  subst hv
  exact (Whole.new w 5 _).cell 0
/-- A text of bytes as a string. -/
theorem out_string {w : World} {base : Nat} {v : Value} {l : List UInt8} (h : Out w base v l) : (convert 45 9 v).run Tryd.prog w = .ok (.string ⟨l.toArray⟩) w := by
  rcases h.2 with ⟨rfl, h0⟩ | ⟨g, cap, cur, rfl, hb, hgg, hnc, _, hsz, htk⟩
  · obtain rfl : l = [] := List.length_eq_zero_iff.1 h0
    kernel_rfl
  · have hcell : ∀ i (hi : i < l.length), w.cell? ⟨g, i, none⟩ = some (.int .u8 (l[i].toNat : Int)) := fun i hi => by
      have hw : Whole w g 5 cur := hgg
      rw [hw.cell]
      have h5 := congrArg (·[i]?) htk
      simp only [List.getElem?_map, List.getElem?_eq_getElem hi, Option.map_some] at h5
      rw [List.getElem?_take_of_lt (by omega)] at h5
      simpa [byteV] using h5
    have hz : (⟨l.toArray⟩ : ByteArray).size = l.length := by show l.toArray.size = _; simp
    have := Lib.run_convert_whole (P := Tryd.prog) w 45 5 9 Tryd.underlying45 Tryd.underlying5 Tryd.underlying9 g 0 ⟨l.toArray⟩ (fun i hi => by
      have hi' : i < l.length := by rw [hz] at hi; omega
      rw [Nat.zero_add, hcell i hi']
      rfl) cap
    rw [hz] at this
    exact this
end Go.Proofs.YtnfddblpenninaaDoor
