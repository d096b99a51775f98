/- A float with a precision is written with so many digits behind the point: the law's walk. -/
import Derived.Test.YtnfddblpenninaaDoorGixF
namespace Go.Proofs.YtnfddblpenninaaDoor
open Go.RowKit

theorem man_neg (b : Nat) (hb : b < 18446744073709551616) : manF (negB b) = manF b ∧ powF (negB b) = powF b := by
  have h1 := (exp_neg b hb).1
  have h2 : fracF (negB b) = fracF b := by
    rcases Nat.lt_or_ge b 9223372036854775808 with h | h
    · rw [negB_lt h]
      unfold fracF
      omega
    · rw [negB_ge h hb]
      unfold fracF
      omega
  unfold manF powF
  rw [h1, h2]
  exact ⟨rfl, rfl⟩
/-- The greater of a float and its opposite. -/
theorem max_two (b : Nat) (hb : b < 18446744073709551616) (hnan : (FloatKind.f64.format.order b b != some .eq) = false) (W : World) : (Builtin.max2 (.float .f64 b) (.float .f64 (negB b))).run Tryd.prog W = .ok (.float .f64 (b % 9223372036854775808)) W := by
  have hng := (exp_neg b hb).2
  have hdn : decide (9223372036854775808 ≤ negB b) = !decide (9223372036854775808 ≤ b) := by
    rcases Nat.lt_or_ge b 9223372036854775808 with h | h
    · rw [negB_lt h, decide_eq_true (by omega), decide_eq_false (by omega)]
      rfl
    · rw [negB_ge h hb, decide_eq_false (by omega), decide_eq_true (by omega)]
      rfl
  obtain ⟨s, hs⟩ : ∃ s, s = decide (9223372036854775808 ≤ b) := ⟨_, rfl⟩
  have hres : b % 9223372036854775808 = if s then negB b else b := by
    rcases Nat.lt_or_ge b 9223372036854775808 with h | h
    · rw [hs, decide_eq_false (by omega), if_neg (by decide)]
      omega
    · rw [hs, decide_eq_true h, if_pos rfl, negB_ge h hb]
      omega
  have hx : expF b < 2048 := by unfold expF; omega
  have hneg : (FloatKind.f64.decode b).neg = s := by
    show (FloatKind.f64.format.read b).neg = s
    rcases Nat.lt_or_ge (expF b) 2047 with hf | hf
    · rw [read_fin b hb hf, hs]
      rfl
    · rcases read_big b hb (by omega) with ⟨hr, _⟩ | ⟨f, hr⟩
      · rw [hr, hs]
        rfl
      · rw [hr, hs]
        rfl
  have ho : (s = true ∧ FloatKind.f64.format.order b (negB b) = some .lt) ∨ (s = false ∧ FloatKind.f64.format.order b (negB b) = some .gt) ∨ FloatKind.f64.format.order b (negB b) = some .eq := by
    rcases Nat.lt_or_ge (expF b) 2047 with hf | hf
    · rw [order_eq, read_fin b hb hf, read_fin (negB b) hng (by rw [(exp_neg b hb).1]; exact hf), hdn, ← hs, (man_neg b hb).1, (man_neg b hb).2]
      simp only [Ieee.Datum.order]
      rw [show min (powF b) (powF b) = powF b by omega, Int.sub_self]
      unfold Ieee.signed
      rw [shl_eq]
      simp only [Int.toNat_zero, Nat.pow_zero, Nat.mul_one]
      cases s
      · right
        simp only [Bool.false_eq_true, if_false, Bool.not_false, if_true, true_and]
        rcases Nat.eq_zero_or_pos (manF b) with h | h
        · right
          rw [h]
          rfl
        · left
          rw [Int.compare_eq_gt.2 (by omega)]
      · rcases Nat.eq_zero_or_pos (manF b) with h | h
        · refine .inr (.inr ?_)
          simp only [if_true, Bool.not_true, Bool.false_eq_true, if_false]
          rw [h]
          rfl
        · refine .inl ⟨rfl, ?_⟩
          simp only [if_true, Bool.not_true, Bool.false_eq_true, if_false]
          rw [Int.compare_eq_lt.2 (by omega)]
    · rcases read_big b hb (by omega) with ⟨hr, _⟩ | ⟨f, hr⟩
      · rcases read_big (negB b) hng (by rw [(exp_neg b hb).1]; omega) with ⟨hr2, _⟩ | ⟨f, hr2⟩
        · rw [order_eq, hr, hr2, hdn, ← hs]
          cases s
          · exact .inr (.inl ⟨rfl, rfl⟩)
          · exact .inl ⟨rfl, rfl⟩
        · exfalso
          have hm : b % 9223372036854775808 = 9218868437227405312 := by
            rcases read_big b hb (by omega) with ⟨_, h⟩ | ⟨f, h⟩
            · exact h
            · rw [hr] at h
              cases h
          have hm2 : negB b % 9223372036854775808 = 9218868437227405312 := by
            rcases Nat.lt_or_ge b 9223372036854775808 with h | h
            · rw [negB_lt h]
              omega
            · rw [negB_ge h hb]
              omega
          have h3 : FloatKind.f64.format.read (negB b) = .infinity (decide (9223372036854775808 ≤ negB b)) := by
            have hneg2 : (negB b / 9223372036854775808 % 2 == 1) = decide (9223372036854775808 ≤ negB b) := by
              rw [Bool.eq_iff_iff]
              simp
              omega
            show Ieee.Format.read Ieee.double (negB b) = _
            unfold Ieee.Format.read
            simp only [show Ieee.double.signWeight = 9223372036854775808 from rfl, show Ieee.double.binade = 4503599627370496 from rfl, show Ieee.double.infRung = 9218868437227405312 from rfl, hneg2]
            rw [if_neg (by omega), if_neg (by omega), if_pos hm2]
          rw [h3] at hr2
          cases hr2
      · rw [order_eq, hr] at hnan
        simp [Ieee.Datum.order] at hnan
  rw [hres]
  unfold Builtin.max2
  rcases ho with ⟨h1, h2⟩ | ⟨h1, h2⟩ | h2
  · simp only [h2, h1, if_true]
    rfl
  · simp only [h2, h1, Bool.false_eq_true, if_false]
    rfl
  · simp only [h2, hneg]
    rfl
theorem max_run (b : Nat) (hb : b < 18446744073709551616) (hnan : (FloatKind.f64.format.order b b != some .eq) = false) (ts : Array TypeId) (t : TypeId) (W : World) : (Builtin.max_ ts t #[.float .f64 b, .float .f64 (negB b)]).run Tryd.prog W = .ok (.float .f64 (b % 9223372036854775808)) W := by
  have h := max_two b hb hnan W
  unfold Builtin.max_
  simpa using h
theorem max_run_nan (b : Nat) (hb : b < 18446744073709551616) (hnan : (FloatKind.f64.format.order b b != some .eq) = true) (W : World) : ∃ c, ∀ (ts : Array TypeId) (t : TypeId), (Builtin.max_ ts t #[.float .f64 b, .float .f64 (negB b)]).run Tryd.prog W = .ok (.float .f64 c) W.drew := by
  have hx : expF b < 2048 := by unfold expF; omega
  have ho : FloatKind.f64.format.order b (negB b) = none := by
    rcases Nat.lt_or_ge (expF b) 2047 with hf | hf
    · rw [order_self_fin b hb hf] at hnan
      cases hnan
    · rcases read_big b hb (by omega) with ⟨hr, _⟩ | ⟨f, hr⟩
      · rw [order_eq, hr] at hnan
        revert hnan
        simp [Ieee.Datum.order]
      · rw [order_eq, hr]
        rfl
  refine ⟨(Question.nanMinMax .f64 true b (negB b)).cut (W.tape W.drawn (.nanMinMax .f64 true b (negB b))), fun ts t => ?_⟩
  have h : (Builtin.max2 (.float .f64 b) (.float .f64 (negB b))).run Tryd.prog W = .ok (.float .f64 ((Question.nanMinMax .f64 true b (negB b)).cut (W.tape W.drawn (.nanMinMax .f64 true b (negB b))))) W.drew := by
    unfold Builtin.max2
    simp only [ho]
    rfl
  unfold Builtin.max_
  simpa using h
end Go.Proofs.YtnfddblpenninaaDoor
