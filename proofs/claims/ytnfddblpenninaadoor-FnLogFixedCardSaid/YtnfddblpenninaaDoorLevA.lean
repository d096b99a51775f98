import Derived.Test.YtnfddblpenninaaDoorProg
import Derived.WalkKit
import Derived.WalkSpells
import Derived.WalkLawsBesides
import Derived.Handy
import Derived.Lib.Hide
import Derived.Test.YtnfddblpenninaaDoorLevP
namespace Go.Proofs.YtnfddblpenninaaDoor
open Go.RowKit

theorem fold_up (W : World) (g n c i : Nat) (r : Int) (hi : i < n) (hcell : W.cell? ⟨g, i, none⟩ = some (.int .i32 r)) (h1 : 65 ≤ r) (h2 : r ≤ 90) :
    Calls Tryd.prog 41 #[.slice (some ⟨g, 0, none⟩) n c, .int .i64 i] W fun e w' => e = .returned (.int .i32 (r + 32)) ∧ W = w' := by
  go_enter Tryd.func41, Tryd.ntmps41
  go_wp2
  go_ret
  exact ⟨ret_int (by omega), rfl⟩

theorem fold_no (W : World) (g n c i : Nat) (r : Int) (hi : i < n) (hcell : W.cell? ⟨g, i, none⟩ = some (.int .i32 r)) (h0 : 0 ≤ r) (h1 : r < 65 ∨ 90 < r) (h2 : r < 128) :
    Calls Tryd.prog 41 #[.slice (some ⟨g, 0, none⟩) n c, .int .i64 i] W fun e w' => e = .returned (.int .i32 r) ∧ W = w' := by
  rcases h1 with h1 | h1
  · go_enter Tryd.func41, Tryd.ntmps41
    go_wp2
    all_goals go_ret
    all_goals exact ⟨rfl, rfl⟩
  · have h3 : 65 ≤ r := by omega
    go_enter Tryd.func41, Tryd.ntmps41
    go_wp2
    all_goals go_ret
    all_goals exact ⟨rfl, rfl⟩


theorem fold_any (W : World) (g n c i : Nat) (r : Int) (hi : i < n) (hcell : W.cell? ⟨g, i, none⟩ = some (.int .i32 r)) (h0 : 0 ≤ r) (h2 : r < 128) :
    Calls Tryd.prog 41 #[.slice (some ⟨g, 0, none⟩) n c, .int .i64 i] W fun e w' => e = .returned (.int .i32 (lowI r)) ∧ W = w' := by
  by_cases h : 65 ≤ r ∧ r ≤ 90
  · have := fold_up W g n c i r hi hcell h.1 h.2
    unfold lowI
    rw [if_pos h]
    exact this
  · have := fold_no W g n c i r hi hcell h0 (by omega) h2
    unfold lowI
    rw [if_neg h]
    exact this

/-- What a conversion to runes lays. -/
def RS (s : ByteArray) (cap : Nat) : Array Value := (runeVals s.data.toList).toArray ++ Array.replicate (cap - s.size) (.int .i32 0)
theorem RS_at (s : ByteArray) (cap i : Nat) (h : i < s.size) : (RS s cap)[i]? = some (.int .i32 (s[i]'h).toNat) := by
  have h' : i < s.data.size := h
  unfold RS runeVals
  rw [Array.getElem?_append_left (by simpa using h')]
  simp
  exact ⟨s[i], by rw [Array.getElem?_eq_getElem h']; rfl, rfl⟩

theorem mem_of (s : ByteArray) (k : Nat) (h : k < s.size) : s[k] ∈ s.data.toList := by
  have h' : k < s.data.size := h
  exact Array.mem_toList_iff.2 (Array.getElem_mem h')

theorem conv_runes (s : ByteArray) (h : ∀ b ∈ s.data.toList, b.toNat < 128) (hs : s.size ≤ 1000) (W : World) :
    (convert 9 74 (.string s)).run Tryd.prog W = .ok (.slice (some ⟨W.heap.size, 0, none⟩) s.size (grownCap W s.size 0 21)) (W.drew.alloc (.cells (RS s (grownCap W s.size 0 21)) 21)) := by
  have hz : (Conv.runesFrom s s.size 0 #[]).size = s.size := by rw [runes_ascii s h]; simp [runeVals]
  have := run_runes_of_string (P := Tryd.prog) W 9 74 21 s Tryd.underlying9 Tryd.underlying74 Tryd.underlying21 (by rw [hz]; omega)
  rw [this, hz, runes_ascii s h]
  rfl

theorem two_first (w : World) (A B : Array Value) (k : Nat) : (((w.alloc (.cells A 21)).alloc (.cells B 21)).drew.drew).cell? ⟨w.heap.size, k, none⟩ = A[k]? := by
  show ((w.alloc (.cells A 21)).alloc (.cells B 21)).cell? ⟨w.heap.size, k, none⟩ = A[k]?
  simp
theorem two_second (w : World) (A B : Array Value) (k : Nat) : (((w.alloc (.cells A 21)).alloc (.cells B 21)).drew.drew).cell? ⟨w.heap.size + 1, k, none⟩ = B[k]? := by
  show ((w.alloc (.cells A 21)).alloc (.cells B 21)).cell? ⟨w.heap.size + 1, k, none⟩ = B[k]?
  simp

set_option maxHeartbeats 400000 in
theorem ef_yes (s t : ByteArray) (n : Nat) (hs : ∀ b ∈ s.data.toList, b.toNat < 128) (ht : ∀ b ∈ t.data.toList, b.toNat < 128) (hsz : s.size = n) (htz : t.size = n) (hn : n ≤ 1000)
    (he : ∀ k (h1 : k < s.size) (h2 : k < t.size), lowI (s[k].toNat : Int) = lowI (t[k].toNat : Int)) (w : World) :
    Calls Tryd.prog 36 #[.string s, .string t] w fun e w' => e = .returned (.bool true) ∧ Below w.heap.size w w' := by
  have c1 := conv_runes s hs (by omega)
  have c2 := conv_runes t ht (by omega)
  have HE := Lib.hid he
  clear he
  go_enter Tryd.func36, Tryd.ntmps36
  go_wp2_with fail
  clear c1 c2
  go_loop [20] (fun i => ∃ k : Nat, k ≤ n ∧ i = .int .i64 k) (fun i => n - (intOf i).toNat)
  case atStart => exact ⟨0, Nat.zero_le _, rfl⟩
  case round =>
    obtain ⟨k, hk, rfl⟩ := hrel
    by_cases hlt : k < n
    · have r1 := fun C => RS_at s C k (by omega)
      have r2 := fun C => RS_at t C k (by omega)
      go_wp2_with fail
      refine (fold_any _ _ _ _ k _ hlt (by rw [two_first]; exact r1 _) (by omega) (Int.ofNat_lt.2 (hs _ (mem_of s k _)))).mono ?_
      rintro e w' ⟨rfl, rfl⟩
      go_wp2_with fail
      refine (fold_any _ _ _ _ k _ hlt (by rw [two_second]; exact r2 _) (by omega) (Int.ofNat_lt.2 (ht _ (mem_of t k _)))).mono ?_
      rintro e w' ⟨rfl, rfl⟩
      have hq : (lowI ((s[k]'(by omega)).toNat : Int) != lowI ((t[k]'(by omega)).toNat : Int)) = false := by rw [HE.out k (by omega) (by omega)]; simp
      go_wp2
      go_round
      case rel => exact ⟨k + 1, by omega, by go_num⟩
      case measure => simp [intOf]; omega
    · go_wp2
      go_ret
      exact ⟨rfl, by go_grown⟩

set_option maxHeartbeats 400000 in
theorem ef_len (s t : ByteArray) (hs : ∀ b ∈ s.data.toList, b.toNat < 128) (ht : ∀ b ∈ t.data.toList, b.toNat < 128) (hsz : s.size ≤ 1000) (htz : t.size ≤ 1000) (hne : ¬ s.size = t.size) (w : World) :
    Calls Tryd.prog 36 #[.string s, .string t] w fun e w' => e = .returned (.bool false) ∧ Below w.heap.size w w' := by
  have c1 := conv_runes s hs (by omega)
  have c2 := conv_runes t ht (by omega)
  go_enter Tryd.func36, Tryd.ntmps36
  go_wp2
  go_ret
  exact ⟨rfl, by go_grown⟩

set_option maxHeartbeats 400000 in
theorem ef_no (s t : ByteArray) (n j : Nat) (hs : ∀ b ∈ s.data.toList, b.toNat < 128) (ht : ∀ b ∈ t.data.toList, b.toNat < 128) (hsz : s.size = n) (htz : t.size = n) (hn : n ≤ 1000) (hj : j < n)
    (he : lowI ((s[j]'(by omega)).toNat : Int) ≠ lowI ((t[j]'(by omega)).toNat : Int)) (w : World) :
    Calls Tryd.prog 36 #[.string s, .string t] w fun e w' => e = .returned (.bool false) ∧ Below w.heap.size w w' := by
  have c1 := conv_runes s hs (by omega)
  have c2 := conv_runes t ht (by omega)
  have HE := Lib.hid he
  clear he
  go_enter Tryd.func36, Tryd.ntmps36
  go_wp2_with fail
  clear c1 c2
  go_loop [20] (fun i => ∃ k : Nat, k ≤ j ∧ i = .int .i64 k) (fun i => n - (intOf i).toNat)
  case atStart => exact ⟨0, Nat.zero_le _, rfl⟩
  case round =>
    obtain ⟨k, hk, rfl⟩ := hrel
    have hlt : k < n := by omega
    have r1 := fun C => RS_at s C k (by omega)
    have r2 := fun C => RS_at t C k (by omega)
    go_wp2_with fail
    refine (fold_any _ _ _ _ k _ hlt (by rw [two_first]; exact r1 _) (by omega) (Int.ofNat_lt.2 (hs _ (mem_of s k _)))).mono ?_
    rintro e w' ⟨rfl, rfl⟩
    go_wp2_with fail
    refine (fold_any _ _ _ _ k _ hlt (by rw [two_second]; exact r2 _) (by omega) (Int.ofNat_lt.2 (ht _ (mem_of t k _)))).mono ?_
    rintro e w' ⟨rfl, rfl⟩
    by_cases hq : lowI ((s[k]'(by omega)).toNat : Int) = lowI ((t[k]'(by omega)).toNat : Int)
    · have hkj : k ≠ j := by rintro rfl; exact HE.out hq
      have hq : (lowI ((s[k]'(by omega)).toNat : Int) != lowI ((t[k]'(by omega)).toNat : Int)) = false := by rw [hq]; simp
      go_wp2
      go_round
      case rel => exact ⟨k + 1, by omega, by go_num⟩
      case measure => simp [intOf]; omega
    · have hq : (lowI ((s[k]'(by omega)).toNat : Int) != lowI ((t[k]'(by omega)).toNat : Int)) = true := by simpa using hq
      go_wp2
      go_ret
      exact ⟨rfl, by go_grown⟩
end Go.Proofs.YtnfddblpenninaaDoor
