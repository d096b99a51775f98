/- What a BurstSampler does with events at some times, as a step upon a state. No program in sight. -/
import Derived.WalkKit
namespace Go.Proofs.YtdpjkhbjkgkjiaaDoor
open Go.RowKit

/-- The end of the period, the events within it, those that the next sampler was asked of, what passed. -/
structure SS where
  e : Int
  n : Int
  a : Int
  outs : List Bool

/-- Is the next sampler, of nx, let pass its event number a (from 0 on)? -/
def nextB (nx a : Int) : Bool := decide (0 < nx) && (a % max nx 1 == 0)

def freshS (first : Bool) (t : Int) (s : SS) : Bool := first || decide (s.e < t)
def stepE (p : Int) (first : Bool) (t : Int) (s : SS) : Int := if freshS first t s then t + p else s.e
def stepN (first : Bool) (t : Int) (s : SS) : Int := (if freshS first t s then 0 else s.n) + 1
def stepS (b p nx : Int) (first : Bool) (t : Int) (s : SS) : SS :=
  if stepN first t s ≤ b then ⟨stepE p first t s, stepN first t s, s.a, s.outs ++ [true]⟩
  else ⟨stepE p first t s, stepN first t s, s.a + 1, s.outs ++ [nextB nx s.a]⟩

def runS (b p nx : Int) (ts : List Int) : Nat → SS
  | 0 => ⟨0, 0, 0, []⟩
  | k + 1 => stepS b p nx (k == 0) (ts.getD k 0) (runS b p nx ts k)

/-- The event may follow those ahead of it. -/
def okS (b p nx : Int) (ts : List Int) (k : Nat) : Prop := k = 0 ∨ (ts.getD (k - 1) 0 ≤ ts.getD k 0 ∧ ts.getD k 0 ≠ (runS b p nx ts k).e)

section
variable {b p nx : Int} {ts : List Int}
theorem runS_succ (k : Nat) : runS b p nx ts (k + 1) = stepS b p nx (k == 0) (ts.getD k 0) (runS b p nx ts k) := rfl
theorem outs_length (k : Nat) : (runS b p nx ts k).outs.length = k := by
  induction k with
  | zero => rfl
  | succ k ih =>
    rw [runS_succ]
    unfold stepS
    split <;> simp [ih]
theorem step_e (first : Bool) (t : Int) (s : SS) : (stepS b p nx first t s).e = stepE p first t s := by unfold stepS; split <;> rfl
theorem step_n (first : Bool) (t : Int) (s : SS) : (stepS b p nx first t s).n = stepN first t s := by unfold stepS; split <;> rfl
theorem step_pass (first : Bool) (t : Int) (s : SS) (h : stepN first t s ≤ b) : stepS b p nx first t s = ⟨stepE p first t s, stepN first t s, s.a, s.outs ++ [true]⟩ := if_pos h
theorem step_ask (first : Bool) (t : Int) (s : SS) (h : ¬ stepN first t s ≤ b) : stepS b p nx first t s = ⟨stepE p first t s, stepN first t s, s.a + 1, s.outs ++ [nextB nx s.a]⟩ := if_neg h

theorem bounds (hp0 : 1 ≤ p) (hp1 : p ≤ 1099511627776) (ht : ∀ i, 0 ≤ ts.getD i 0 ∧ ts.getD i 0 ≤ 1125899906842624) (k : Nat) :
    0 ≤ (runS b p nx ts k).e ∧ (runS b p nx ts k).e ≤ 1126999418470400 ∧ 0 ≤ (runS b p nx ts k).n ∧ (runS b p nx ts k).n ≤ k ∧ 0 ≤ (runS b p nx ts k).a ∧ (runS b p nx ts k).a ≤ k := by
  induction k with
  | zero => simp [runS]
  | succ k ih =>
    obtain ⟨h1, h2, h3, h4, h5, h6⟩ := ih
    obtain ⟨t1, t2⟩ := ht k
    rw [runS_succ]
    refine ⟨?_, ?_, ?_, ?_, ?_, ?_⟩
    · rw [step_e]; unfold stepE; split <;> omega
    · rw [step_e]; unfold stepE; split <;> omega
    · rw [step_n]; unfold stepN; split <;> omega
    · rw [step_n]; unfold stepN; split <;> omega
    · unfold stepS; split <;> simp only [] <;> omega
    · unfold stepS; split <;> simp only [] <;> omega
end

theorem next_zero (a : Int) : nextB 0 a = false := by simp [nextB]
theorem next_one (a : Int) : nextB 1 a = true := by
  unfold nextB
  have : max (1 : Int) 1 = 1 := by decide
  rw [this]
  simp
theorem next_more (n a : Int) (hn : 2 ≤ n) : nextB n a = ((a + 1) % n == 1) := by
  unfold nextB
  have hm : max n 1 = n := by omega
  rw [hm]
  have h1 : decide (0 < n) = true := by simp; omega
  rw [h1, Bool.true_and, Bool.eq_iff_iff]
  simp only [beq_iff_eq]
  have e : (a + 1) % n = (a % n + 1) % n := by rw [Int.add_emod]; simp
  have hr0 : 0 ≤ a % n := Int.emod_nonneg _ (by omega)
  have hr1 : a % n < n := Int.emod_lt_of_pos _ (by omega)
  rw [e]
  constructor
  · intro h
    rw [h]
    exact Int.emod_eq_of_lt (by omega) (by omega)
  · intro h
    by_cases hl : a % n + 1 = n
    · rw [hl, Int.emod_self] at h
      cases h
    · rw [Int.emod_eq_of_lt (by omega) (by omega)] at h
      omega

end Go.Proofs.YtdpjkhbjkgkjiaaDoor
