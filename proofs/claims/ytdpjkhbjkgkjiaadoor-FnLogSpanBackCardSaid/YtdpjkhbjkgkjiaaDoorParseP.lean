import Derived.Test.YtdpjkhbjkgkjiaaDoorLevC
import Derived.Test.YtdpjkhbjkgkjiaaDoorMem
import Derived.Deep.DeepCutAuto
import Derived.Deep.LoopGhost
import Derived.Deep.QuietTactic
import Derived.BigQuiet
namespace Go.Proofs.YtdpjkhbjkgkjiaaDoor
open Go.RowKit

/-- The names of levels from trace to panic. -/
def nameL (j : Int) : List UInt8 := (lname (j - 1)).data.toList

theorem seven {j : Int} (h0 : 0 ≤ j) (h1 : j < 7) : j = 0 ∨ j = 1 ∨ j = 2 ∨ j = 3 ∨ j = 4 ∨ j = 5 ∨ j = 6 := by omega
theorem name_small {j : Int} (h0 : 0 ≤ j) (h1 : j < 7) : ∀ b ∈ nameL j, 97 ≤ b.toNat ∧ b.toNat ≤ 122 := by
  rcases seven h0 h1 with rfl | rfl | rfl | rfl | rfl | rfl | rfl <;> decide +kernel
theorem name_len {j : Int} (h0 : 0 ≤ j) (h1 : j < 7) : (nameL j).length ≤ 5 := by
  rcases seven h0 h1 with rfl | rfl | rfl | rfl | rfl | rfl | rfl <;> decide +kernel
theorem name_low {j : Int} (h0 : 0 ≤ j) (h1 : j < 7) : lowL (nameL j) = nameL j := by
  rcases seven h0 h1 with rfl | rfl | rfl | rfl | rfl | rfl | rfl <;> decide +kernel

/-- What the names themselves are found as. -/
def headL (l : List UInt8) : Option Int :=
  if l == [116, 114, 97, 99, 101] then some (-1)
  else if l == [100, 101, 98, 117, 103] then some 0
  else if l == [105, 110, 102, 111] then some 1
  else if l == [119, 97, 114, 110] then some 2
  else if l == [101, 114, 114, 111, 114] then some 3
  else if l == [102, 97, 116, 97, 108] then some 4
  else if l == [112, 97, 110, 105, 99] then some 5
  else if l == [100, 105, 115, 97, 98, 108, 101, 100] then some 7
  else if l == [] then some 6
  else none

theorem parseL_head (s : ByteArray) : parseL s = match headL (lowL s.data.toList) with | some n => some n | none => parseN s := by
  unfold parseL headL foldEq
  simp only [show lowL (⟨#[116, 114, 97, 99, 101]⟩ : ByteArray).data.toList = [116, 114, 97, 99, 101] by decide +kernel,
    show lowL (⟨#[100, 101, 98, 117, 103]⟩ : ByteArray).data.toList = [100, 101, 98, 117, 103] by decide +kernel,
    show lowL (⟨#[105, 110, 102, 111]⟩ : ByteArray).data.toList = [105, 110, 102, 111] by decide +kernel,
    show lowL (⟨#[119, 97, 114, 110]⟩ : ByteArray).data.toList = [119, 97, 114, 110] by decide +kernel,
    show lowL (⟨#[101, 114, 114, 111, 114]⟩ : ByteArray).data.toList = [101, 114, 114, 111, 114] by decide +kernel,
    show lowL (⟨#[102, 97, 116, 97, 108]⟩ : ByteArray).data.toList = [102, 97, 116, 97, 108] by decide +kernel,
    show lowL (⟨#[112, 97, 110, 105, 99]⟩ : ByteArray).data.toList = [112, 97, 110, 105, 99] by decide +kernel,
    show lowL (⟨#[100, 105, 115, 97, 98, 108, 101, 100]⟩ : ByteArray).data.toList = [100, 105, 115, 97, 98, 108, 101, 100] by decide +kernel,
    show lowL (⟨#[]⟩ : ByteArray).data.toList = [] by decide +kernel]
  repeat' split
  all_goals first
    | rfl
    | (simp_all; done)

theorem head_name {j : Int} (h0 : 0 ≤ j) (h1 : j < 7) : headL (nameL j) = some (j - 1) := by
  rcases seven h0 h1 with rfl | rfl | rfl | rfl | rfl | rfl | rfl <;> decide +kernel

/-- What is found by its name has that name. -/
theorem name_of_head {l : List UInt8} {n : Int} (h : headL l = some n) : -1 ≤ n ∧ n ≤ 7 ∧ (lname n).data.toList = l := by
  unfold headL at h
  repeat' (split at h)
  all_goals first
    | (injection h with h; subst h; rename_i hb; refine ⟨by decide, by decide, ?_⟩; rw [eq_of_beq hb]; decide +kernel)
    | cases h

/-- A sign or none, and digits. -/
def numAt (l : List UInt8) (k : Nat) : Bool := match l[k]? with
  | some c => (decide (48 ≤ c.toNat) && decide (c.toNat ≤ 57)) || (k == 0 && (c.toNat == 45 || c.toNat == 43))
  | none => true
def numTo (l : List UInt8) : Nat → Bool
  | 0 => !l.isEmpty
  | k + 1 => numTo l k && numAt l k

theorem digits_of_parse : ∀ (l : List UInt8) (acc u : Nat), Lib.parseUint10 acc l = .ok u → ∀ c ∈ l, 48 ≤ c.toNat ∧ c.toNat ≤ 57
  | [], acc, u, h => by simp
  | c :: r, acc, u, h => by
    simp only [Lib.parseUint10] at h
    split at h
    · rename_i hc
      split at h
      · cases h
      · split at h
        · cases h
        · intro x hx
          rcases List.mem_cons.1 hx with rfl | hx
          · exact hc
          · exact digits_of_parse r _ u h x hx
    · cases h

theorem digits_of_mag {l : List UInt8} {u : Nat} (h : Lib.parseMag l = .ok u) : ∀ c ∈ l, 48 ≤ c.toNat ∧ c.toNat ≤ 57 := by
  unfold Lib.parseMag at h
  by_cases hl : l = []
  · rw [if_pos hl] at h
    cases h
  · rw [if_neg hl] at h
    exact digits_of_parse _ _ _ h

theorem numTo_of_parse {s : ByteArray} {n : Int} (h : parseN s = some n) : ∀ k, numTo s.data.toList k = true := by
  unfold parseN at h
  split at h
  · rename_i v hv
    clear h
    generalize s.data.toList = l at hv
    unfold Lib.atoiAll at hv
    split at hv
    · cases hv
    · rename_i c r
      simp only [] at hv
      have hd : ∃ u, Lib.parseMag (if c.toNat = 43 ∨ c.toNat = 45 then r else c :: r) = .ok u := by
        split at hv
        · cases hv
        · cases hv
        · rename_i u hu
          exact ⟨u, hu⟩
      obtain ⟨u, hu⟩ := hd
      have hall : ∀ k, numAt (c :: r) k = true := by
        intro k
        unfold numAt
        split
        · rename_i x hx
          have hdig := digits_of_mag hu
          by_cases hs : c.toNat = 43 ∨ c.toNat = 45
          · rw [if_pos hs] at hdig
            cases k with
            | zero =>
              simp only [List.getElem?_cons_zero, Option.some.injEq] at hx
              subst hx
              rcases hs with hs | hs <;> simp [hs]
            | succ k =>
              simp only [List.getElem?_cons_succ] at hx
              have := hdig x (List.mem_of_getElem? hx)
              simp [this.1, this.2]
          · rw [if_neg hs] at hdig
            have := hdig x (List.mem_of_getElem? hx)
            simp [this.1, this.2]
        · rfl
      intro k
      induction k with
      | zero => simp [numTo]
      | succ k ih => simp [numTo, ih, hall k]
  · cases h

/-- One letter made great. -/
theorem low_great {m : List UInt8} {l : List UInt8} {k : Nat} (hm : lowL m = l) (hk : k < m.length) (h1 : 97 ≤ (m[k]).toNat) (h2 : (m[k]).toNat ≤ 122) : lowL (m.set k (m[k] - 32)) = l := by
  have e : low8 (m[k] - 32) = low8 m[k] := by
    have h32 : (m[k] - 32).toNat = m[k].toNat - 32 := by
      rw [UInt8.toNat_sub_of_le]
      · rfl
      · rw [UInt8.le_iff_toNat_le]; show 32 ≤ _; omega
    unfold low8
    rw [if_pos (by omega), if_neg (by omega)]
    apply UInt8.toNat_inj.1
    rw [UInt8.toNat_add, h32]
    show (_ + 32) % 256 = _
    omega
  unfold lowL at hm ⊢
  rw [List.map_set, e, ← hm]
  apply List.ext_getElem?
  intro i
  by_cases hik : k = i
  · subst hik
    simp [hk]
  · rw [List.getElem?_set_ne hik]

theorem low_ascii {m : List UInt8} {l : List UInt8} (hm : lowL m = l) (h : ∀ b ∈ l, 97 ≤ b.toNat ∧ b.toNat ≤ 122) : ∀ b ∈ m, b.toNat < 128 := by
  intro b hb
  subst hm
  have h1 := h (low8 b) (List.mem_map.2 ⟨b, hb, rfl⟩)
  unfold low8 at h1
  split at h1
  · omega
  · omega

/-- What the text is behind k rounds: k letters small. -/
def lowTo (l : List UInt8) (k : Nat) : List UInt8 := lowL (l.take k) ++ l.drop k
theorem lowTo_length (l : List UInt8) (k : Nat) : (lowTo l k).length = l.length := by
  unfold lowTo lowL
  simp
  omega
theorem lowTo_zero (l : List UInt8) : lowTo l 0 = l := by simp [lowTo, lowL]
theorem lowTo_all (l : List UInt8) : lowTo l l.length = lowL l := by simp [lowTo]
theorem lowTo_get (l : List UInt8) (k : Nat) (h : k < l.length) (h' : k < (lowTo l k).length) : (lowTo l k)[k] = l[k] := by
  have e : (lowTo l k)[k]? = l[k]? := by
    unfold lowTo lowL
    rw [List.getElem?_append_right (by simp; omega)]
    simp [Nat.min_eq_left (Nat.le_of_lt h)]
  rw [List.getElem?_eq_getElem h', List.getElem?_eq_getElem h] at e
  injection e
theorem lowTo_step (l : List UInt8) (k : Nat) (h : k < l.length) : (lowTo l k).set k (low8 l[k]) = lowTo l (k + 1) := by
  apply List.ext_getElem?
  intro i
  unfold lowTo lowL
  by_cases hik : k = i
  · subst hik
    rw [List.getElem?_set_self (by simp; omega)]
    rw [List.getElem?_append_left (by simp; omega)]
    simp [h]
  · rw [List.getElem?_set_ne hik]
    rcases Nat.lt_or_ge i k with h1 | h1
    · rw [List.getElem?_append_left (by simp; omega), List.getElem?_append_left (by simp; omega)]
      simp [h1, show i < k + 1 by omega]
    · rw [List.getElem?_append_right (by simp; omega), List.getElem?_append_right (by simp; omega)]
      simp [Nat.min_eq_left (Nat.le_of_lt h), Nat.min_eq_left h]
      congr 1
      omega
theorem lowTo_same (l : List UInt8) (k : Nat) (h : k < l.length) (hs : low8 l[k] = l[k]) : lowTo l k = lowTo l (k + 1) := by
  rw [← lowTo_step l k h, hs]
  have h' : k < (lowTo l k).length := by rw [lowTo_length]; exact h
  rw [← lowTo_get l k h h']
  simp

theorem toList_eq (s : ByteArray) : s.toList = s.data.toList := by
  obtain ⟨⟨l⟩⟩ := s
  rw [show (ByteArray.mk { toList := l }) = ByteArray.mk l.toArray from rfl, ByteArray.toList_mk]

theorem isEmpty_eq (s : ByteArray) : (!s.toList.isEmpty) = numTo s.data.toList 0 := by rw [toList_eq]; rfl

theorem named_block (w : World) (O : Obj) (s : ByteArray) (l : List UInt8) (n cap : Nat) (hl : s.data.toList = l) (hn : l.length = n) :
    ∃ g c, Value.slice (some ⟨w.heap.size + 1, 0, none⟩) n cap = .slice (some ⟨g, 0, none⟩) l.length c ∧ BB (Lib.bytesWorld (w.alloc O) 5 s) g l ∧ w.heap.size ≤ g ∧ Below w.heap.size w (Lib.bytesWorld (w.alloc O) 5 s) := by
  subst hn hl
  have h := BB.conv (w.alloc O) s
  have e : (w.alloc O).heap.size = w.heap.size + 1 := by simp
  rw [e] at h
  exact ⟨_, cap, rfl, h, by omega, ((Below.refl _ _).alloc (Nat.le_refl _) _).trans (Joins.below_bytesWorld _ _ _ _ (by rw [e]; omega))⟩

end Go.Proofs.YtdpjkhbjkgkjiaaDoor
