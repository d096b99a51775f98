/- The calendar: no program in sight. N: days since March 1 of the year 0. -/
import Derived.WalkKit
namespace Go.Proofs.YtggebombeflmhaaDoor
open Go.RowKit

/-- The days ahead of a year that begins in March. -/
def yearDays (Y : Nat) : Nat := 365 * Y + Y / 4 - Y / 100 + Y / 400

def goCd (N : Nat) : Nat := 4 * ((4 * N + 3) % 146097 / 4) + 3
def goY0 (N : Nat) : Nat := (4 * N + 3) / 146097 * 100 + goCd N / 1461
def goYd (N : Nat) : Nat := goCd N % 1461 / 4
theorem go_prod {cd : Nat} (h : cd < 146100) : 2939745 * cd / 4294967296 = cd / 1461 ∧ 2939745 * cd % 4294967296 / 2939745 / 4 = cd % 1461 / 4 := by
  obtain ⟨y, t, hy, ht, rfl⟩ : ∃ y t, y = cd / 1461 ∧ t < 1461 ∧ cd = 1461 * y + t := ⟨_, cd % 1461, rfl, by omega, by omega⟩
  have e : 2939745 * (1461 * y + t) = 4294967296 * y + (149 * y + 2939745 * t) := by omega
  have h1 : 149 * y + 2939745 * t < 4294967296 := by omega
  have h2 : (1461 * y + t) / 1461 = y := by omega
  have h3 : (1461 * y + t) % 1461 = t := by omega
  have h4 : (149 * y + 2939745 * t) / 2939745 = t := by omega
  rw [e, h2, h3]
  have h5 : (4294967296 * y + (149 * y + 2939745 * t)) / 4294967296 = y := by omega
  have h6 : (4294967296 * y + (149 * y + 2939745 * t)) % 4294967296 = 149 * y + 2939745 * t := by omega
  rw [h5, h6, h4]
  exact ⟨rfl, rfl⟩
theorem go_day (N : Nat) : N = yearDays (goY0 N) + goYd N := by
  unfold yearDays goY0 goYd
  obtain ⟨C, hC⟩ : ∃ C, C = (4 * N + 3) / 146097 := ⟨_, rfl⟩
  obtain ⟨y, hy⟩ : ∃ y, y = goCd N / 1461 := ⟨_, rfl⟩
  rw [← hC, ← hy]
  have hcd : goCd N = 4 * ((4 * N + 3) % 146097 / 4) + 3 := rfl
  have hy9 : y ≤ 99 := by omega
  have e1 : (C * 100 + y) / 4 = 25 * C + y / 4 := by omega
  have e2 : (C * 100 + y) / 100 = C := by omega
  have e3 : (C * 100 + y) / 400 = C / 4 := by omega
  rw [e1, e2, e3]
  omega
theorem go_cday (N : Nat) : ∃ c, goCd N = 4 * c + 3 ∧ N = 36524 * ((4 * N + 3) / 146097) + (4 * N + 3) / 146097 / 4 + c ∧ c < 36524 + (((4 * N + 3) / 146097 + 1) / 4 - (4 * N + 3) / 146097 / 4) := by
  refine ⟨(4 * N + 3) % 146097 / 4, rfl, by omega, ?_⟩
  obtain ⟨C, r, hC, hr, h, hlt⟩ : ∃ C r, C = (4 * N + 3) / 146097 ∧ r = (4 * N + 3) % 146097 ∧ 4 * N + 3 = 146097 * C + r ∧ r < 146097 := ⟨_, _, rfl, rfl, by omega, by omega⟩
  rw [← hC, ← hr]
  clear hC hr
  by_cases h3 : C % 4 = 3
  · have e : (C + 1) / 4 = C / 4 + 1 := by omega
    omega
  · have e : (C + 1) / 4 = C / 4 := by omega
    have hne : r ≠ 146096 := by
      rintro rfl
      omega
    omega
theorem go_next (N : Nat) : N < yearDays (goY0 N + 1) := by
  obtain ⟨c, hcd, hN, hc⟩ := go_cday N
  unfold yearDays goY0
  obtain ⟨C, hC⟩ : ∃ C, C = (4 * N + 3) / 146097 := ⟨_, rfl⟩
  rw [← hC] at hN hc ⊢
  rw [hcd]
  obtain ⟨y, hy⟩ : ∃ y, y = (4 * c + 3) / 1461 := ⟨_, rfl⟩
  rw [← hy]
  have hc2 : c < 365 * (y + 1) + (y + 1) / 4 := by omega
  have hy9 : y ≤ 99 := by omega
  clear hC hcd hy
  by_cases h : y = 99
  · subst h
    have e1 : (C * 100 + 99 + 1) / 4 = 25 * C + 25 := by omega
    have e2 : (C * 100 + 99 + 1) / 100 = C + 1 := by omega
    have e3 : (C * 100 + 99 + 1) / 400 = (C + 1) / 4 := by omega
    rw [e1, e2, e3]
    omega
  · have e1 : (C * 100 + y + 1) / 4 = 25 * C + (y + 1) / 4 := by omega
    have e2 : (C * 100 + y + 1) / 100 = C := by omega
    have e3 : (C * 100 + y + 1) / 400 = C / 4 := by omega
    rw [e1, e2, e3]
    omega

def refY (o : Nat) : Nat := (o - o / 1460 + o / 36524 - o / 146096) / 365
def refG (o : Nat) : Nat := o - o / 1460 + o / 36524 - o / 146096
theorem refG_step (o : Nat) : refG o ≤ refG (o + 1) := by
  unfold refG
  omega
theorem refG_mono {a b : Nat} (h : a ≤ b) : refG a ≤ refG b := by
  induction h with
  | refl => exact Nat.le_refl _
  | step _ ih => exact Nat.le_trans ih (refG_step _)
theorem refY_mono {a b : Nat} (h : a ≤ b) : refY a ≤ refY b := Nat.div_le_div_right (refG_mono h)
/-- At a year's first and last days the quotient is the year. -/
def edges : Nat → Bool
  | 0 => true
  | y + 1 => refY (365 * y + y / 4 - y / 100) == y && (refY (365 * (y + 1) + (y + 1) / 4 - (y + 1) / 100 + (if y = 399 then 1 else 0) - 1) == y && edges y)
theorem edges_all : edges 400 = true := by decide +kernel
theorem edges_at : ∀ (n y : Nat), edges n = true → y < n → refY (365 * y + y / 4 - y / 100) = y ∧ refY (365 * (y + 1) + (y + 1) / 4 - (y + 1) / 100 + (if y = 399 then 1 else 0) - 1) = y
  | 0, _, _, h => absurd h (by omega)
  | n + 1, y, h, hy => by
    simp only [edges, Bool.and_eq_true, beq_iff_eq] at h
    by_cases e : y = n
    · subst e
      exact ⟨h.1, h.2.1⟩
    · exact edges_at n y h.2.2 (by omega)
theorem ref_year {o : Nat} (h : o < 146097) : 365 * refY o + refY o / 4 - refY o / 100 ≤ o ∧ o < 365 * (refY o + 1) + (refY o + 1) / 4 - (refY o + 1) / 100 + (if refY o = 399 then 1 else 0) := by
  have hy : refY o < 400 := by
    have h1 := refY_mono (show o ≤ 146096 by omega)
    have h2 : refY 146096 = 399 := by decide
    omega
  constructor
  · rcases Nat.lt_or_ge o (365 * refY o + refY o / 4 - refY o / 100) with hlt | hge
    · exfalso
      have hpos : 0 < refY o := by
        rcases Nat.eq_zero_or_pos (refY o) with h0 | h0
        · rw [h0] at hlt; omega
        · exact h0
      have h1 := (edges_at 400 (refY o - 1) edges_all (by omega)).2
      rw [show refY o - 1 + 1 = refY o by omega, if_neg (by omega), Nat.add_zero] at h1
      have h2 := refY_mono (show o ≤ 365 * refY o + refY o / 4 - refY o / 100 - 1 by omega)
      omega
    · exact hge
  · rcases Nat.lt_or_ge o (365 * (refY o + 1) + (refY o + 1) / 4 - (refY o + 1) / 100 + (if refY o = 399 then 1 else 0)) with hlt | hge
    · exact hlt
    · exfalso
      by_cases h9 : refY o = 399
      · rw [h9] at hge
        simp at hge
        omega
      · rw [if_neg h9, Nat.add_zero] at hge
        have h1 := (edges_at 400 (refY o + 1) edges_all (by omega)).1
        have h2 := refY_mono hge
        omega

/-- Days ahead of years grow. -/
theorem yearDays_mono {a b : Nat} (h : a < b) : yearDays (a + 1) ≤ yearDays b := by
  induction h with
  | refl => exact Nat.le_refl _
  | step _ ih =>
    refine Nat.le_trans ih ?_
    unfold yearDays
    omega
theorem year_unique {N a b : Nat} (h1 : yearDays a ≤ N) (h2 : N < yearDays (a + 1)) (h3 : yearDays b ≤ N) (h4 : N < yearDays (b + 1)) : a = b := by
  rcases Nat.lt_trichotomy a b with h | h | h
  · have := yearDays_mono h; omega
  · exact h
  · have := yearDays_mono h; omega
def refY0 (N : Nat) : Nat := N / 146097 * 400 + refY (N % 146097)
def refIn (N : Nat) : Nat := N % 146097 - (365 * refY (N % 146097) + refY (N % 146097) / 4 - refY (N % 146097) / 100)
theorem q4 (E y : Nat) : (E * 400 + y) / 4 = 100 * E + y / 4 := by omega
theorem q100 (E y : Nat) : (E * 400 + y) / 100 = 4 * E + y / 100 := by omega
theorem q400 (E y : Nat) (h : y < 400) : (E * 400 + y) / 400 = E := by omega
theorem ref_day (N : Nat) : N = yearDays (refY0 N) + refIn N ∧ N < yearDays (refY0 N + 1) := by
  obtain ⟨h1, h2⟩ := ref_year (o := N % 146097) (by omega)
  have hy : refY (N % 146097) < 400 := by
    have h1 := refY_mono (show N % 146097 ≤ 146096 by omega)
    have h2 : refY 146096 = 399 := by decide
    omega
  unfold refY0 refIn yearDays
  obtain ⟨y, e⟩ : ∃ y, y = refY (N % 146097) := ⟨_, rfl⟩
  rw [← e] at h1 h2 hy ⊢
  clear e
  obtain ⟨E, hE⟩ : ∃ E, E = N / 146097 := ⟨_, rfl⟩
  rw [← hE]
  refine ⟨by rw [q4, q100, q400 _ _ hy]; omega, ?_⟩
  by_cases h9 : y = 399
  · subst h9
    simp at h2
    rw [show E * 400 + 399 + 1 = (E + 1) * 400 + 0 by omega, q4, q100, q400 _ _ (by omega)]
    omega
  · rw [if_neg h9] at h2
    rw [show E * 400 + y + 1 = E * 400 + (y + 1) by omega, q4, q100, q400 _ _ (by omega)]
    omega
/-- Both ways find the same year and day. -/
theorem same_year (N : Nat) : goY0 N = refY0 N ∧ goYd N = refIn N := by
  have h1 := go_day N
  have h2 := go_next N
  obtain ⟨h3, h4⟩ := ref_day N
  have e := year_unique (a := goY0 N) (b := refY0 N) (by omega) h2 (by omega) h4
  rw [e] at h1
  exact ⟨e, by omega⟩

theorem refIn_lt (N : Nat) : refIn N < 366 := by
  obtain ⟨h1, h2⟩ := ref_day N
  have h3 : yearDays (refY0 N + 1) ≤ yearDays (refY0 N) + 366 := by unfold yearDays; omega
  omega
/-- The month and the day of a day of the year that begins in March. -/
def mon0 (d : Nat) : Nat := (5 * d + 2) / 153
def monOf (d : Nat) : Nat := if mon0 d < 10 then mon0 d + 3 else mon0 d - 9
def dayOf (d : Nat) : Nat := d - (153 * mon0 d + 2) / 5 + 1
def janFeb (d : Nat) : Nat := if 306 ≤ d then 1 else 0
def monthsSame (d : Nat) : Bool :=
  (2141 * d + 197913) / 65536 == monOf d + 12 * janFeb d && (1 + (2141 * d + 197913) % 65536 / 2141 == dayOf d && (janFeb d == (if mon0 d < 10 then 0 else 1) && (Nat.ble 1 (monOf d) && (Nat.ble (monOf d) 12 && (Nat.ble 1 (dayOf d) && (Nat.ble (dayOf d) 31 && (Nat.ble ((153 * mon0 d + 2) / 5) d && Nat.ble (mon0 d) 11)))))))
theorem months_all : (List.range 366).all monthsSame = true := by decide +kernel
theorem months_at {d : Nat} (h : d < 366) : (2141 * d + 197913) / 65536 = monOf d + 12 * janFeb d ∧ 1 + (2141 * d + 197913) % 65536 / 2141 = dayOf d ∧ janFeb d = (if mon0 d < 10 then 0 else 1) ∧ 1 ≤ monOf d ∧ monOf d ≤ 12 ∧ 1 ≤ dayOf d ∧ dayOf d ≤ 31 ∧ (153 * mon0 d + 2) / 5 ≤ d ∧ mon0 d ≤ 11 := by
  have := List.all_eq_true.1 months_all d (List.mem_range.2 h)
  simpa [monthsSame] using this
/-- The civil date of a day. -/
def civY (N : Nat) : Nat := refY0 N + janFeb (refIn N)
def civM (N : Nat) : Nat := monOf (refIn N)
def civD (N : Nat) : Nat := dayOf (refIn N)
theorem civ_bounds (N : Nat) : 1 ≤ civM N ∧ civM N ≤ 12 ∧ 1 ≤ civD N ∧ civD N ≤ 31 := by
  have h := months_at (refIn_lt N)
  exact ⟨h.2.2.2.1, h.2.2.2.2.1, h.2.2.2.2.2.1, h.2.2.2.2.2.2.1⟩
theorem civY_bounds {N : Nat} (h1 : 655360 ≤ N) (h2 : N < 786432) : 1000 ≤ civY N ∧ civY N ≤ 9999 := by
  obtain ⟨h3, h4⟩ := ref_day N
  unfold yearDays at h3 h4
  unfold civY
  have h5 : janFeb (refIn N) ≤ 1 := by unfold janFeb; split <;> decide
  omega
end Go.Proofs.YtggebombeflmhaaDoor
