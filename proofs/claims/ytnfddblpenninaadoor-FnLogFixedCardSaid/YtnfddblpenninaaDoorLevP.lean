/- Plain facts on levels' names: the runes of an ASCII text, letters folded, what is read of a text. No program in sight. -/
import Derived.WalkKit
import Derived.Lib.AtoiAll
namespace Go.Proofs.YtnfddblpenninaaDoor
open Go.RowKit

theorem ret_int {k : IntKind} {a b : Int} (h : a = b) : Ending.returned (.int k a) = .returned (.int k b) := by rw [h]
theorem ret_bool {a b : Bool} (h : a = b) : Ending.returned (.bool a) = .returned (.bool b) := by rw [h]

/-- The runes of a text of ASCII: its bytes. -/
def runeVals (l : List UInt8) : List Value := l.map fun b => Value.int .i32 (b.toNat : Int)

theorem runes_ascii_aux (s : ByteArray) (h : ∀ b ∈ s.data.toList, b.toNat < 128) : ∀ (bound i : Nat) (acc : Array Value), i ≤ s.size → s.size - i ≤ bound →
    Conv.runesFrom s bound i acc = acc ++ (runeVals (s.data.toList.drop i)).toArray := by
  intro bound
  induction bound with
  | zero =>
    intro i acc hi hb
    have : i = s.size := by omega
    subst this
    unfold Conv.runesFrom
    rw [List.drop_of_length_le (by simp)]
    simp [runeVals]
  | succ n ih =>
    intro i acc hi hb
    unfold Conv.runesFrom
    by_cases hlt : i < s.size
    · have hl : i < s.data.toList.length := by simpa using hlt
      have hb' : s.data.toList[i] ∈ s.data.toList := List.getElem_mem hl
      have h1 := h _ hb'
      have hget : s.get! i = s.data.toList[i] := by
        rw [ByteArray.get!]
        simp only [getElem!_def, Array.getElem_toList]
        rw [Array.getElem?_eq_getElem (by simpa using hlt)]
      have hd : Utf8.decode s i = (s.data.toList[i].toNat, 1) := by
        unfold Utf8.decode
        simp only [Nat.add_zero, hget]
        rw [if_pos h1]
      rw [if_pos hlt, hd]
      simp only []
      rw [ih (i + 1) _ (by omega) (by omega)]
      rw [List.drop_eq_getElem_cons hl]
      simp [runeVals]
    · rw [if_neg hlt]
      rw [List.drop_of_length_le (by simp; omega)]
      simp [runeVals]

theorem runes_ascii (s : ByteArray) (h : ∀ b ∈ s.data.toList, b.toNat < 128) : Conv.runesFrom s s.size 0 #[] = (runeVals s.data.toList).toArray := by
  rw [runes_ascii_aux s h s.size 0 #[] (by omega) (by omega)]
  simp

/-- A letter of ASCII, small. -/
def low8 (b : UInt8) : UInt8 := if 65 ≤ b.toNat ∧ b.toNat ≤ 90 then b + 32 else b
def lowI (r : Int) : Int := if 65 ≤ r ∧ r ≤ 90 then r + 32 else r

theorem low8_toNat (b : UInt8) : ((low8 b).toNat : Int) = lowI (b.toNat : Int) := by
  unfold low8 lowI
  by_cases h : 65 ≤ b.toNat ∧ b.toNat ≤ 90
  · rw [if_pos h, if_pos (by omega)]
    rw [UInt8.toNat_add]
    have : (32 : UInt8).toNat = 32 := rfl
    omega
  · rw [if_neg h, if_neg (by omega)]

theorem low8_inj {a b : UInt8} : lowI (a.toNat : Int) = lowI (b.toNat : Int) ↔ low8 a = low8 b := by
  rw [← low8_toNat, ← low8_toNat, ← UInt8.toNat_inj]
  omega

def lowL (l : List UInt8) : List UInt8 := l.map low8
/-- Two texts of ASCII but for the size of letters. -/
def foldEq (s t : ByteArray) : Bool := lowL s.data.toList == lowL t.data.toList

theorem foldEq_true {s t : ByteArray} (h : foldEq s t = true) : s.size = t.size ∧ ∀ k (h1 : k < s.size) (h2 : k < t.size), lowI (s[k].toNat : Int) = lowI (t[k].toNat : Int) := by
  unfold foldEq lowL at h
  have h := eq_of_beq h
  have hl : s.size = t.size := by
    have := congrArg List.length h
    simpa using this
  refine ⟨hl, fun k h1 h2 => ?_⟩
  have h3 := congrArg (fun l => l[k]?) h
  have h1' : k < s.data.size := h1
  have h2' : k < t.data.size := h2
  simp only [List.getElem?_map, Array.getElem?_toList] at h3
  rw [Array.getElem?_eq_getElem h1', Array.getElem?_eq_getElem h2'] at h3
  simp only [Option.map_some, Option.some.injEq] at h3
  exact low8_inj.2 h3

theorem foldEq_false {s t : ByteArray} (h : foldEq s t = false) : s.size ≠ t.size ∨ ∃ k, ∃ (h1 : k < s.size) (h2 : k < t.size), lowI (s[k].toNat : Int) ≠ lowI (t[k].toNat : Int) := by
  by_cases hl : s.size = t.size
  · refine .inr (Classical.byContradiction fun hn => ?_)
    have : foldEq s t = true := by
      unfold foldEq lowL
      rw [beq_iff_eq]
      apply List.ext_getElem?
      intro k
      simp only [List.getElem?_map, Array.getElem?_toList]
      by_cases hk : k < s.size
      · have h1' : k < s.data.size := hk
        have h2' : k < t.data.size := by have : t.data.size = t.size := rfl; omega
        rw [Array.getElem?_eq_getElem h1', Array.getElem?_eq_getElem h2']
        simp only [Option.map_some, Option.some.injEq]
        apply low8_inj.1
        exact Classical.byContradiction fun hne => hn ⟨k, h1', h2', hne⟩
      · have h1' : s.data.size ≤ k := by have : s.data.size = s.size := rfl; omega
        have h2' : t.data.size ≤ k := by have : t.data.size = t.size := rfl; omega
        rw [Array.getElem?_eq_none h1', Array.getElem?_eq_none h2']
    rw [this] at h
    cases h
  · exact .inl hl

/-- The number that a text is, if a level may have it. -/
def parseN (s : ByteArray) : Option Int := match Lib.atoiAll s.data.toList with
  | .ok v => if 127 < v ∨ v < -128 then none else some v
  | _ => none

/-- Which level a text is read as: none, if it is none. -/
def parseL (s : ByteArray) : Option Int :=
  if foldEq s ⟨#[116, 114, 97, 99, 101]⟩ then some (-1)
  else if foldEq s ⟨#[100, 101, 98, 117, 103]⟩ then some 0
  else if foldEq s ⟨#[105, 110, 102, 111]⟩ then some 1
  else if foldEq s ⟨#[119, 97, 114, 110]⟩ then some 2
  else if foldEq s ⟨#[101, 114, 114, 111, 114]⟩ then some 3
  else if foldEq s ⟨#[102, 97, 116, 97, 108]⟩ then some 4
  else if foldEq s ⟨#[112, 97, 110, 105, 99]⟩ then some 5
  else if foldEq s ⟨#[100, 105, 115, 97, 98, 108, 101, 100]⟩ then some 7
  else if foldEq s ⟨#[]⟩ then some 6
  else parseN s

theorem parseN_bounds {s : ByteArray} {n : Int} (h : parseN s = some n) : -128 ≤ n ∧ n ≤ 127 := by
  unfold parseN at h
  split at h
  · split at h
    · cases h
    · injection h with h
      omega
  · cases h

theorem parseL_bounds {s : ByteArray} {n : Int} (h : parseL s = some n) : -128 ≤ n ∧ n ≤ 127 := by
  unfold parseL at h
  repeat' (split at h)
  all_goals first
    | (injection h with h; omega)
    | exact parseN_bounds h

/-- The names of the levels. -/
def lname (n : Int) : ByteArray :=
  if n = -1 then ⟨#[116, 114, 97, 99, 101]⟩ else if n = 0 then ⟨#[100, 101, 98, 117, 103]⟩ else if n = 1 then ⟨#[105, 110, 102, 111]⟩ else if n = 2 then ⟨#[119, 97, 114, 110]⟩
  else if n = 3 then ⟨#[101, 114, 114, 111, 114]⟩ else if n = 4 then ⟨#[102, 97, 116, 97, 108]⟩ else if n = 5 then ⟨#[112, 97, 110, 105, 99]⟩ else if n = 7 then ⟨#[100, 105, 115, 97, 98, 108, 101, 100]⟩ else ⟨#[]⟩

theorem info_parses : parseL ⟨#[105, 110, 102, 111]⟩ = some 1 := by decide +kernel

end Go.Proofs.YtnfddblpenninaaDoor
