/- The reference's dates and fractions: no walk. -/
import Derived.Test.YtggebombeflmhaaDoorRefA
namespace Go.Proofs.YtggebombeflmhaaDoor
open Go.RowKit

theorem pad_two {n : Nat} (h : n < 100) : pad 2 n = d2 n := by
  unfold pad d2
  by_cases h10 : n < 10
  · rw [digs_one h10, show n / 10 = 0 by omega]
    rfl
  · rw [digs_ten (by omega), digs_one (by omega)]
    rfl
theorem pad_four {n : Nat} (h0 : 1000 ≤ n) (h : n < 10000) : pad 4 n = d4 n := by
  unfold pad d4
  rw [digs_ten (by omega), digs_ten (by omega : 10 ≤ n / 10), digs_ten (by omega : 10 ≤ n / 10 / 10), digs_one (by omega : n / 10 / 10 / 10 < 10), show n / 10 / 10 / 10 = n / 1000 by omega, show n / 10 / 10 = n / 100 by omega]
  rfl
theorem padded2 (n : Int) (h0 : 0 ≤ n) (h1 : n < 100) (w0 w : World) (hB : Below w0.heap.size w0 w) :
    Calls Tryd.prog 12 #[.int .i64 n, .int .i64 2] w fun e w' => e = .returned (.string ⟨(d2 n.toNat).toArray⟩) ∧ Below w0.heap.size w0 w' := by
  have := padded_any n 2 (by decide) h0 (by omega) w0 w hB
  rw [pad_two (by omega)] at this
  exact this
theorem padded4 (n : Int) (h0 : 1000 ≤ n) (h1 : n < 10000) (w0 w : World) (hB : Below w0.heap.size w0 w) :
    Calls Tryd.prog 12 #[.int .i64 n, .int .i64 4] w fun e w' => e = .returned (.string ⟨(d4 n.toNat).toArray⟩) ∧ Below w0.heap.size w0 w' := by
  have := padded_any n 4 (by decide) (by omega) (by omega) w0 w hB
  rw [pad_four (by omega) (by omega)] at this
  exact this
theorem padded9 (n : Int) (h0 : 0 ≤ n) (h1 : n < 1000000000) (w0 w : World) (hB : Below w0.heap.size w0 w) :
    Calls Tryd.prog 12 #[.int .i64 n, .int .i64 9] w fun e w' => e = .returned (.string ⟨(d9 n.toNat).toArray⟩) ∧ Below w0.heap.size w0 w' :=
  padded_any n 9 (by decide) h0 (by omega) w0 w hB

/-- A number above 0 has a digit that is not 0. -/
theorem digs_some : ∀ (k v : Nat), v ≤ k → 0 < v → ∃ c ∈ digs v, c ≠ 48
  | 0, v, h, h0 => absurd h0 (by omega)
  | k + 1, v, h, h0 => by
    by_cases h10 : v < 10
    · rw [digs_one h10]
      refine ⟨dg v, by simp, fun e => ?_⟩
      have := congrArg UInt8.toNat e
      rw [dg_toNat] at this
      simp at this
      omega
    · obtain ⟨c, hc, hne⟩ := digs_some k (v / 10) (by omega) (by omega)
      rw [digs_ten (by omega)]
      exact ⟨c, by simp [hc], hne⟩
theorem d9_some {F : Nat} (h : 0 < F) : ∃ c ∈ d9 F, c ≠ 48 := by
  obtain ⟨c, hc, hne⟩ := digs_some F F (Nat.le_refl _) h
  exact ⟨c, by unfold d9; simp [hc], hne⟩
theorem d9_cut {F k : Nat} (hF : 0 < F) {x : List UInt8} (h : d9 F = x ++ zeros k) : x ≠ [] := by
  rintro rfl
  obtain ⟨c, hc, hne⟩ := d9_some hF
  rw [h, List.nil_append] at hc
  exact hne (List.eq_of_mem_replicate hc)
/-- The digits of a fraction without the zeros at its end. -/
def Frac (F : Nat) (x : List UInt8) : Prop := ∃ k, d9 F = x ++ zeros k
theorem zeros_snoc (k : Nat) : 48 :: zeros k = zeros (k + 1) := rfl
theorem Frac.drop {F : Nat} {x : List UInt8} (h : Frac F x) (hl : x.getLast? = some 48) : Frac F x.dropLast := by
  obtain ⟨k, hk⟩ := h
  refine ⟨k + 1, ?_⟩
  have hne : x ≠ [] := by rintro rfl; cases hl
  have := List.dropLast_concat_getLast hne
  rw [List.getLast?_eq_some_getLast hne] at hl
  injection hl with hl
  rw [hl] at this
  rw [hk, ← zeros_snoc]
  conv => lhs; rw [← this]
  simp
theorem Frac.whole {F : Nat} {x : List UInt8} (h : Frac F x) (hF : F < 1000000000) : (x ++ zeros 9).take 9 = d9 F := by
  obtain ⟨k, hk⟩ := h
  have h9 := d9_len hF
  have hl : x.length + k = 9 := by
    rw [hk] at h9
    simpa [zeros] using h9
  rw [hk, List.take_append, List.take_of_length_le (by omega)]
  congr 1
  unfold zeros
  rw [List.take_replicate]
  congr 1
  omega

/-- The date and the time of day, as the reference writes them first. -/
def stampL (N s : Nat) : List UInt8 := d4 (civY N) ++ (45 :: (d2 (civM N) ++ (45 :: (d2 (civD N) ++ (84 :: (d2 (s / 3600) ++ (58 :: (d2 (s % 3600 / 60) ++ (58 :: d2 (s % 60))))))))))
theorem stampL_len (N s : Nat) : (stampL N s).length = 19 := rfl

/-- What the reference's steps come to, for a day n. -/
structure Steps (n : Nat) (E o y d m0 dd M Y : Int) : Prop where
  ey : (o - o / 1460 + o / 36524 - o / 146096) / 365 = y
  ed : o - (365 * y + y / 4 - y / 100) = d
  em : (5 * d + 2) / 153 = m0
  edd : d - (153 * m0 + 2) / 5 + 1 = dd
  low : m0 < 10 → m0 + 3 = M ∧ y + E * 400 = Y
  high : 10 ≤ m0 → m0 - 9 = M ∧ y + E * 400 + 1 = Y
  y0 : 0 ≤ y
  y1 : y < 400
  d0 : 0 ≤ d
  d1 : d < 366
  m00 : 0 ≤ m0
  m01 : m0 ≤ 11
  hM : M = (civM n : Int)
  hY : Y = (civY n : Int)
  hD : dd = (civD n : Int)
theorem ey_of (o : Nat) : ((o : Int) - o / 1460 + o / 36524 - o / 146096) / 365 = (refY o : Nat) := by
  unfold refY
  omega
theorem ed_of (o r : Nat) (h : 365 * r + r / 4 - r / 100 ≤ o) : (o : Int) - (365 * (r : Int) + r / 4 - r / 100) = ((o - (365 * r + r / 4 - r / 100) : Nat) : Int) := by omega
theorem steps_of (n : Nat) : ∃ y d m0 dd M Y : Int, Steps n (n / 146097 : Nat) (n % 146097 : Nat) y d m0 dd M Y := by
  have hd366 := refIn_lt n
  have hm := months_at hd366
  obtain ⟨hry, _⟩ := ref_year (o := n % 146097) (by omega)
  have hry4 : refY (n % 146097) < 400 := by
    have h1 := refY_mono (show n % 146097 ≤ 146096 by omega)
    have h2 : refY 146096 = 399 := by decide
    omega
  have hin : refIn n = n % 146097 - (365 * refY (n % 146097) + refY (n % 146097) / 4 - refY (n % 146097) / 100) := rfl
  refine ⟨(refY (n % 146097) : Nat), (refIn n : Nat), (mon0 (refIn n) : Nat), (civD n : Nat), (civM n : Nat), (civY n : Nat), ey_of _, ?_, ?_, ?_, ?_, ?_, by omega, by omega, by omega, by omega, by omega, ?_, rfl, rfl, rfl⟩
  · rw [hin]
    exact ed_of _ _ hry
  · unfold mon0
    omega
  · have h2 : (153 * mon0 (refIn n) + 2) / 5 ≤ refIn n := hm.2.2.2.2.2.2.2.1
    unfold civD dayOf
    generalize refIn n = r at *
    generalize mon0 r = k at *
    omega
  · intro hj
    have hj' : mon0 (refIn n) < 10 := by omega
    have h3 := hm.2.2.1
    rw [if_pos hj'] at h3
    unfold civM monOf civY refY0
    rw [if_pos hj', h3]
    constructor <;> omega
  · intro hj
    have hj' : ¬ mon0 (refIn n) < 10 := by omega
    have h3 := hm.2.2.1
    rw [if_neg hj'] at h3
    unfold civM monOf civY refY0
    rw [if_neg hj', h3]
    constructor <;> omega
  · have := hm.2.2.2.2.2.2.2.2
    omega
end Go.Proofs.YtggebombeflmhaaDoor
