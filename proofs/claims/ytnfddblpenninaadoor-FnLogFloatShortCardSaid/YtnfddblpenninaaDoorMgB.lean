/- Plain facts on levels' names: the runes of an ASCII text, letters folded, what is read of a text. No program in sight. -/
import Derived.WalkKit
import Derived.Lib.AtoiAll
import Derived.Test.YtnfddblpenninaaDoorProg
import Derived.WalkSpells
import Derived.WalkLawsBesides
import Derived.Handy
import Derived.Lib.Hide
namespace Go.Proofs.YtnfddblpenninaaDoor
open Go.RowKit

theorem ret_int {k : IntKind} {a b : Int} (h : a = b) : Ending.returned (.int k a) = .returned (.int k b) := by rw [h]
theorem ret_bool {a b : Bool} (h : a = b) : Ending.returned (.bool a) = .returned (.bool b) := by rw [h]

/-- The runes of a text of ASCII: its bytes. -/
def runeVals (l : List UInt8) : List Value := l.map fun b => Value.int .i32 (b.toNat : Int)

theorem runes_ascii_aux (s : ByteArray) (h : ∀ b ∈ s.data.toList, b.toNat < 128) : ∀ (bound i : Nat) (acc : Array Value), i ≤ s.size → s.size - i ≤ bound →
    Conv.runesFrom s bound i acc = acc ++ (runeVals (s.data.toList.drop i)).toArray := by
  intro bound
  induction bound with
  | zero =>
    intro i acc hi hb
    have : i = s.size := by omega
    subst this
    unfold Conv.runesFrom
    rw [List.drop_of_length_le (by simp)]
    simp [runeVals]
  | succ n ih =>
    intro i acc hi hb
    unfold Conv.runesFrom
    by_cases hlt : i < s.size
    · have hl : i < s.data.toList.length := by simpa using hlt
      have hb' : s.data.toList[i] ∈ s.data.toList := List.getElem_mem hl
      have h1 := h _ hb'
      have hget : s.get! i = s.data.toList[i] := by
        rw [ByteArray.get!]
        simp only [getElem!_def, Array.getElem_toList]
        rw [Array.getElem?_eq_getElem (by simpa using hlt)]
      have hd : Utf8.decode s i = (s.data.toList[i].toNat, 1) := by
        unfold Utf8.decode
        simp only [Nat.add_zero, hget]
        rw [if_pos h1]
      rw [if_pos hlt, hd]
      simp only []
      rw [ih (i + 1) _ (by omega) (by omega)]
      rw [List.drop_eq_getElem_cons hl]
      simp [runeVals]
    · rw [if_neg hlt]
      rw [List.drop_of_length_le (by simp; omega)]
      simp [runeVals]

theorem runes_ascii (s : ByteArray) (h : ∀ b ∈ s.data.toList, b.toNat < 128) : Conv.runesFrom s s.size 0 #[] = (runeVals s.data.toList).toArray := by
  rw [runes_ascii_aux s h s.size 0 #[] (by omega) (by omega)]
  simp

/-- A letter of ASCII, small. -/
def low8 (b : UInt8) : UInt8 := if 65 ≤ b.toNat ∧ b.toNat ≤ 90 then b + 32 else b
def lowI (r : Int) : Int := if 65 ≤ r ∧ r ≤ 90 then r + 32 else r

theorem low8_toNat (b : UInt8) : ((low8 b).toNat : Int) = lowI (b.toNat : Int) := by
  unfold low8 lowI
  by_cases h : 65 ≤ b.toNat ∧ b.toNat ≤ 90
  · rw [if_pos h, if_pos (by omega)]
    rw [UInt8.toNat_add]
    have : (32 : UInt8).toNat = 32 := rfl
    omega
  · rw [if_neg h, if_neg (by omega)]

theorem low8_inj {a b : UInt8} : lowI (a.toNat : Int) = lowI (b.toNat : Int) ↔ low8 a = low8 b := by
  rw [← low8_toNat, ← low8_toNat, ← UInt8.toNat_inj]
  omega

def lowL (l : List UInt8) : List UInt8 := l.map low8
/-- Two texts of ASCII but for the size of letters. -/
def foldEq (s t : ByteArray) : Bool := lowL s.data.toList == lowL t.data.toList

theorem foldEq_true {s t : ByteArray} (h : foldEq s t = true) : s.size = t.size ∧ ∀ k (h1 : k < s.size) (h2 : k < t.size), lowI (s[k].toNat : Int) = lowI (t[k].toNat : Int) := by
  unfold foldEq lowL at h
  have h := eq_of_beq h
  have hl : s.size = t.size := by
    have := congrArg List.length h
    simpa using this
  refine ⟨hl, fun k h1 h2 => ?_⟩
  have h3 := congrArg (fun l => l[k]?) h
  have h1' : k < s.data.size := h1
  have h2' : k < t.data.size := h2
  simp only [List.getElem?_map, Array.getElem?_toList] at h3
  rw [Array.getElem?_eq_getElem h1', Array.getElem?_eq_getElem h2'] at h3
  simp only [Option.map_some, Option.some.injEq] at h3
  exact low8_inj.2 h3

theorem foldEq_false {s t : ByteArray} (h : foldEq s t = false) : s.size ≠ t.size ∨ ∃ k, ∃ (h1 : k < s.size) (h2 : k < t.size), lowI (s[k].toNat : Int) ≠ lowI (t[k].toNat : Int) := by
  by_cases hl : s.size = t.size
  · refine .inr (Classical.byContradiction fun hn => ?_)
    have : foldEq s t = true := by
      unfold foldEq lowL
      rw [beq_iff_eq]
      apply List.ext_getElem?
      intro k
      simp only [List.getElem?_map, Array.getElem?_toList]
      by_cases hk : k < s.size
      · have h1' : k < s.data.size := hk
        have h2' : k < t.data.size := by have : t.data.size = t.size := rfl; omega
        rw [Array.getElem?_eq_getElem h1', Array.getElem?_eq_getElem h2']
        simp only [Option.map_some, Option.some.injEq]
        apply low8_inj.1
        exact Classical.byContradiction fun hne => hn ⟨k, h1', h2', hne⟩
      · have h1' : s.data.size ≤ k := by have : s.data.size = s.size := rfl; omega
        have h2' : t.data.size ≤ k := by have : t.data.size = t.size := rfl; omega
        rw [Array.getElem?_eq_none h1', Array.getElem?_eq_none h2']
    rw [this] at h
    cases h
  · exact .inl hl

/-- The number that a text is, if a level may have it. -/
def parseN (s : ByteArray) : Option Int := match Lib.atoiAll s.data.toList with
  | .ok v => if 127 < v ∨ v < -128 then none else some v
  | _ => none

/-- Which level a text is read as: none, if it is none. -/
def parseL (s : ByteArray) : Option Int :=
  if foldEq s ⟨#[116, 114, 97, 99, 101]⟩ then some (-1)
  else if foldEq s ⟨#[100, 101, 98, 117, 103]⟩ then some 0
  else if foldEq s ⟨#[105, 110, 102, 111]⟩ then some 1
  else if foldEq s ⟨#[119, 97, 114, 110]⟩ then some 2
  else if foldEq s ⟨#[101, 114, 114, 111, 114]⟩ then some 3
  else if foldEq s ⟨#[102, 97, 116, 97, 108]⟩ then some 4
  else if foldEq s ⟨#[112, 97, 110, 105, 99]⟩ then some 5
  else if foldEq s ⟨#[100, 105, 115, 97, 98, 108, 101, 100]⟩ then some 7
  else if foldEq s ⟨#[]⟩ then some 6
  else parseN s

theorem parseN_bounds {s : ByteArray} {n : Int} (h : parseN s = some n) : -128 ≤ n ∧ n ≤ 127 := by
  unfold parseN at h
  split at h
  · split at h
    · cases h
    · injection h with h
      omega
  · cases h

theorem parseL_bounds {s : ByteArray} {n : Int} (h : parseL s = some n) : -128 ≤ n ∧ n ≤ 127 := by
  unfold parseL at h
  repeat' (split at h)
  all_goals first
    | (injection h with h; omega)
    | exact parseN_bounds h

/-- The names of the levels. -/
def lname (n : Int) : ByteArray :=
  if n = -1 then ⟨#[116, 114, 97, 99, 101]⟩ else if n = 0 then ⟨#[100, 101, 98, 117, 103]⟩ else if n = 1 then ⟨#[105, 110, 102, 111]⟩ else if n = 2 then ⟨#[119, 97, 114, 110]⟩
  else if n = 3 then ⟨#[101, 114, 114, 111, 114]⟩ else if n = 4 then ⟨#[102, 97, 116, 97, 108]⟩ else if n = 5 then ⟨#[112, 97, 110, 105, 99]⟩ else if n = 7 then ⟨#[100, 105, 115, 97, 98, 108, 101, 100]⟩ else ⟨#[]⟩

theorem info_parses : parseL ⟨#[105, 110, 102, 111]⟩ = some 1 := by decide +kernel

end Go.Proofs.YtnfddblpenninaaDoor
namespace Go.Proofs.YtnfddblpenninaaDoor
open Go.RowKit

theorem fold_up (W : World) (g n c i : Nat) (r : Int) (hi : i < n) (hcell : W.cell? ⟨g, i, none⟩ = some (.int .i32 r)) (h1 : 65 ≤ r) (h2 : r ≤ 90) :
    Calls Tryd.prog 41 #[.slice (some ⟨g, 0, none⟩) n c, .int .i64 i] W fun e w' => e = .returned (.int .i32 (r + 32)) ∧ W = w' := by
  go_enter Tryd.func41, Tryd.ntmps41
  go_wp2
  go_ret
  exact ⟨ret_int (by omega), rfl⟩

theorem fold_no (W : World) (g n c i : Nat) (r : Int) (hi : i < n) (hcell : W.cell? ⟨g, i, none⟩ = some (.int .i32 r)) (h0 : 0 ≤ r) (h1 : r < 65 ∨ 90 < r) (h2 : r < 128) :
    Calls Tryd.prog 41 #[.slice (some ⟨g, 0, none⟩) n c, .int .i64 i] W fun e w' => e = .returned (.int .i32 r) ∧ W = w' := by
  rcases h1 with h1 | h1
  · go_enter Tryd.func41, Tryd.ntmps41
    go_wp2
    all_goals go_ret
    all_goals exact ⟨rfl, rfl⟩
  · have h3 : 65 ≤ r := by omega
    go_enter Tryd.func41, Tryd.ntmps41
    go_wp2
    all_goals go_ret
    all_goals exact ⟨rfl, rfl⟩


theorem fold_any (W : World) (g n c i : Nat) (r : Int) (hi : i < n) (hcell : W.cell? ⟨g, i, none⟩ = some (.int .i32 r)) (h0 : 0 ≤ r) (h2 : r < 128) :
    Calls Tryd.prog 41 #[.slice (some ⟨g, 0, none⟩) n c, .int .i64 i] W fun e w' => e = .returned (.int .i32 (lowI r)) ∧ W = w' := by
  by_cases h : 65 ≤ r ∧ r ≤ 90
  · have := fold_up W g n c i r hi hcell h.1 h.2
    unfold lowI
    rw [if_pos h]
    exact this
  · have := fold_no W g n c i r hi hcell h0 (by omega) h2
    unfold lowI
    rw [if_neg h]
    exact this

/-- What a conversion to runes lays. -/
def RS (s : ByteArray) (cap : Nat) : Array Value := (runeVals s.data.toList).toArray ++ Array.replicate (cap - s.size) (.int .i32 0)
theorem RS_at (s : ByteArray) (cap i : Nat) (h : i < s.size) : (RS s cap)[i]? = some (.int .i32 (s[i]'h).toNat) := by
  have h' : i < s.data.size := h
  unfold RS runeVals
  rw [Array.getElem?_append_left (by simpa using h')]
  simp
  exact ⟨s[i], by rw [Array.getElem?_eq_getElem h']; rfl, rfl⟩

theorem mem_of (s : ByteArray) (k : Nat) (h : k < s.size) : s[k] ∈ s.data.toList := by
  have h' : k < s.data.size := h
  exact Array.mem_toList_iff.2 (Array.getElem_mem h')

theorem conv_runes (s : ByteArray) (h : ∀ b ∈ s.data.toList, b.toNat < 128) (hs : s.size ≤ 1000) (W : World) :
    (convert 9 74 (.string s)).run Tryd.prog W = .ok (.slice (some ⟨W.heap.size, 0, none⟩) s.size (grownCap W s.size 0 21)) (W.drew.alloc (.cells (RS s (grownCap W s.size 0 21)) 21)) := by
  have hz : (Conv.runesFrom s s.size 0 #[]).size = s.size := by rw [runes_ascii s h]; simp [runeVals]
  have := run_runes_of_string (P := Tryd.prog) W 9 74 21 s Tryd.underlying9 Tryd.underlying74 Tryd.underlying21 (by rw [hz]; omega)
  rw [this, hz, runes_ascii s h]
  rfl

theorem two_first (w : World) (A B : Array Value) (k : Nat) : (((w.alloc (.cells A 21)).alloc (.cells B 21)).drew.drew).cell? ⟨w.heap.size, k, none⟩ = A[k]? := by
  show ((w.alloc (.cells A 21)).alloc (.cells B 21)).cell? ⟨w.heap.size, k, none⟩ = A[k]?
  simp
theorem two_second (w : World) (A B : Array Value) (k : Nat) : (((w.alloc (.cells A 21)).alloc (.cells B 21)).drew.drew).cell? ⟨w.heap.size + 1, k, none⟩ = B[k]? := by
  show ((w.alloc (.cells A 21)).alloc (.cells B 21)).cell? ⟨w.heap.size + 1, k, none⟩ = B[k]?
  simp

set_option maxHeartbeats 400000 in
theorem ef_yes (s t : ByteArray) (n : Nat) (hs : ∀ b ∈ s.data.toList, b.toNat < 128) (ht : ∀ b ∈ t.data.toList, b.toNat < 128) (hsz : s.size = n) (htz : t.size = n) (hn : n ≤ 1000)
    (he : ∀ k (h1 : k < s.size) (h2 : k < t.size), lowI (s[k].toNat : Int) = lowI (t[k].toNat : Int)) (w : World) :
    Calls Tryd.prog 36 #[.string s, .string t] w fun e w' => e = .returned (.bool true) ∧ Below w.heap.size w w' := by
  have c1 := conv_runes s hs (by omega)
  have c2 := conv_runes t ht (by omega)
  have HE := Lib.hid he
  clear he
  go_enter Tryd.func36, Tryd.ntmps36
  go_wp2_with fail
  clear c1 c2
  go_loop [20] (fun i => ∃ k : Nat, k ≤ n ∧ i = .int .i64 k) (fun i => n - (intOf i).toNat)
  case atStart => exact ⟨0, Nat.zero_le _, rfl⟩
  case round =>
    obtain ⟨k, hk, rfl⟩ := hrel
    by_cases hlt : k < n
    · have r1 := fun C => RS_at s C k (by omega)
      have r2 := fun C => RS_at t C k (by omega)
      go_wp2_with fail
      refine (fold_any _ _ _ _ k _ hlt (by rw [two_first]; exact r1 _) (by omega) (Int.ofNat_lt.2 (hs _ (mem_of s k _)))).mono ?_
      rintro e w' ⟨rfl, rfl⟩
      go_wp2_with fail
      refine (fold_any _ _ _ _ k _ hlt (by rw [two_second]; exact r2 _) (by omega) (Int.ofNat_lt.2 (ht _ (mem_of t k _)))).mono ?_
      rintro e w' ⟨rfl, rfl⟩
      have hq : (lowI ((s[k]'(by omega)).toNat : Int) != lowI ((t[k]'(by omega)).toNat : Int)) = false := by rw [HE.out k (by omega) (by omega)]; simp
      go_wp2
      go_round
      case rel => exact ⟨k + 1, by omega, by go_num⟩
      case measure => simp [intOf]; omega
    · go_wp2
      go_ret
      exact ⟨rfl, by go_grown⟩

set_option maxHeartbeats 400000 in
theorem ef_len (s t : ByteArray) (hs : ∀ b ∈ s.data.toList, b.toNat < 128) (ht : ∀ b ∈ t.data.toList, b.toNat < 128) (hsz : s.size ≤ 1000) (htz : t.size ≤ 1000) (hne : ¬ s.size = t.size) (w : World) :
    Calls Tryd.prog 36 #[.string s, .string t] w fun e w' => e = .returned (.bool false) ∧ Below w.heap.size w w' := by
  have c1 := conv_runes s hs (by omega)
  have c2 := conv_runes t ht (by omega)
  go_enter Tryd.func36, Tryd.ntmps36
  go_wp2
  go_ret
  exact ⟨rfl, by go_grown⟩

set_option maxHeartbeats 400000 in
theorem ef_no (s t : ByteArray) (n j : Nat) (hs : ∀ b ∈ s.data.toList, b.toNat < 128) (ht : ∀ b ∈ t.data.toList, b.toNat < 128) (hsz : s.size = n) (htz : t.size = n) (hn : n ≤ 1000) (hj : j < n)
    (he : lowI ((s[j]'(by omega)).toNat : Int) ≠ lowI ((t[j]'(by omega)).toNat : Int)) (w : World) :
    Calls Tryd.prog 36 #[.string s, .string t] w fun e w' => e = .returned (.bool false) ∧ Below w.heap.size w w' := by
  have c1 := conv_runes s hs (by omega)
  have c2 := conv_runes t ht (by omega)
  have HE := Lib.hid he
  clear he
  go_enter Tryd.func36, Tryd.ntmps36
  go_wp2_with fail
  clear c1 c2
  go_loop [20] (fun i => ∃ k : Nat, k ≤ j ∧ i = .int .i64 k) (fun i => n - (intOf i).toNat)
  case atStart => exact ⟨0, Nat.zero_le _, rfl⟩
  case round =>
    obtain ⟨k, hk, rfl⟩ := hrel
    have hlt : k < n := by omega
    have r1 := fun C => RS_at s C k (by omega)
    have r2 := fun C => RS_at t C k (by omega)
    go_wp2_with fail
    refine (fold_any _ _ _ _ k _ hlt (by rw [two_first]; exact r1 _) (by omega) (Int.ofNat_lt.2 (hs _ (mem_of s k _)))).mono ?_
    rintro e w' ⟨rfl, rfl⟩
    go_wp2_with fail
    refine (fold_any _ _ _ _ k _ hlt (by rw [two_second]; exact r2 _) (by omega) (Int.ofNat_lt.2 (ht _ (mem_of t k _)))).mono ?_
    rintro e w' ⟨rfl, rfl⟩
    by_cases hq : lowI ((s[k]'(by omega)).toNat : Int) = lowI ((t[k]'(by omega)).toNat : Int)
    · have hkj : k ≠ j := by rintro rfl; exact HE.out hq
      have hq : (lowI ((s[k]'(by omega)).toNat : Int) != lowI ((t[k]'(by omega)).toNat : Int)) = false := by rw [hq]; simp
      go_wp2
      go_round
      case rel => exact ⟨k + 1, by omega, by go_num⟩
      case measure => simp [intOf]; omega
    · have hq : (lowI ((s[k]'(by omega)).toNat : Int) != lowI ((t[k]'(by omega)).toNat : Int)) = true := by simpa using hq
      go_wp2
      go_ret
      exact ⟨rfl, by go_grown⟩
end Go.Proofs.YtnfddblpenninaaDoor
