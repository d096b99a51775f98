/- No number with a digit less lies near a float: the law. Plain, no program in sight. -/
import Derived.Test.YtnfddblpenninaaDoorShoK
import Derived.Test.YtnfddblpenninaaDoorShoQ
import Derived.Test.YtnfddblpenninaaDoorShoM
namespace Go.Proofs.YtnfddblpenninaaDoor
open Go.RowKit

/-- Whether C times 10 to the e is near the float m times 2 to the k. -/
def nearB (C : Nat) (e : Int) (m : Nat) (k least : Int) (top : Nat) : Bool :=
  let a := if m = top ∧ least < k then sideN C e (4 * m - 1) (k - 2) else sideN C e (2 * m - 1) (k - 1)
  let b := sideN C e (2 * m + 1) (k - 1)
  (decide (0 < a) || (a == 0 && m % 2 == 0)) && (decide (b < 0) || (b == 0 && m % 2 == 0))
theorem pow_pos10 (n : Nat) : 0 < 10 ^ n := Nat.pow_pos (by decide)
/-- A number against an end of the interval. -/
theorem side_unit (C y : Nat) (e j p : Int) (h : 0 ≤ e + p) : ∃ K, 0 < K ∧ (C * 10 ^ e.toNat * 2 ^ (-j).toNat) * 10 ^ p.toNat = (C * 10 ^ (e + p).toNat) * denB j p * K ∧ (y * 10 ^ (-e).toNat * 2 ^ j.toNat) * 10 ^ p.toNat = y * numA j p * K := by
  refine ⟨10 ^ (-e).toNat, pow_pos10 _, ?_, ?_⟩
  · have h1 : 10 ^ e.toNat * 10 ^ p.toNat = 10 ^ (e + p).toNat * 10 ^ (-p).toNat * 10 ^ (-e).toNat := by
      rw [← Nat.pow_add, ← Nat.pow_add, ← Nat.pow_add]
      congr 1
      omega
    calc C * 10 ^ e.toNat * 2 ^ (-j).toNat * 10 ^ p.toNat = C * (10 ^ e.toNat * 10 ^ p.toNat) * 2 ^ (-j).toNat := by simp only [Nat.mul_assoc, Nat.mul_comm, Nat.mul_left_comm]
      _ = C * (10 ^ (e + p).toNat * 10 ^ (-p).toNat * 10 ^ (-e).toNat) * 2 ^ (-j).toNat := by rw [h1]
      _ = _ := by unfold denB; simp only [Nat.mul_assoc, Nat.mul_comm, Nat.mul_left_comm]
  · unfold numA
    simp only [Nat.mul_assoc, Nat.mul_comm, Nat.mul_left_comm]
theorem side_sign (C y : Nat) (e j p : Int) (h : 0 ≤ e + p) :
    (0 < sideN C e y j → y * numA j p < (C * 10 ^ (e + p).toNat) * denB j p) ∧ (sideN C e y j = 0 → y * numA j p = (C * 10 ^ (e + p).toNat) * denB j p) ∧ (sideN C e y j < 0 → (C * 10 ^ (e + p).toNat) * denB j p < y * numA j p) := by
  obtain ⟨K, hK, h1, h2⟩ := side_unit C y e j p h
  unfold sideN
  generalize C * 10 ^ e.toNat * 2 ^ (-j).toNat = X at *
  generalize y * 10 ^ (-e).toNat * 2 ^ j.toNat = Y at *
  have hp := pow_pos10 p.toNat
  generalize 10 ^ p.toNat = Q at *
  generalize (C * 10 ^ (e + p).toNat) * denB j p = U at *
  generalize y * numA j p = V at *
  unfold cmpN
  refine ⟨fun h0 => ?_, fun h0 => ?_, fun h0 => ?_⟩
  · have hlt : Y < X := by
      split at h0
      · omega
      · split at h0 <;> omega
    have h3 := Nat.mul_lt_mul_of_pos_right hlt hp
    rw [h1, h2] at h3
    exact Nat.lt_of_mul_lt_mul_right h3
  · have he : X = Y := by
      split at h0
      · omega
      · split at h0 <;> omega
    rw [he, h2] at h1
    exact Nat.eq_of_mul_eq_mul_right hK h1
  · have hlt : X < Y := by
      split at h0
      · assumption
      · split at h0 <;> omega
    have h3 := Nat.mul_lt_mul_of_pos_right hlt hp
    rw [h1, h2] at h3
    exact Nat.lt_of_mul_lt_mul_right h3
/-- Two numbers with powers of ten are the same. -/
def SameVal (D : Nat) (E : Int) (d : Nat) (P : Int) : Prop := ∃ a b : Nat, (a : Int) - b = E - P ∧ D * 10 ^ a = d * 10 ^ b
theorem cmp_two (X Y : Nat) : cmpN (2 * X) (2 * Y) = cmpN X Y := by
  unfold cmpN
  rcases Nat.lt_trichotomy X Y with h | h | h
  · rw [if_pos (show 2 * X < 2 * Y by omega), if_pos h]
  · rw [if_neg (show ¬ 2 * X < 2 * Y by omega), if_neg (show ¬ X < Y by omega), if_pos (show 2 * X = 2 * Y by omega), if_pos h]
  · rw [if_neg (show ¬ 2 * X < 2 * Y by omega), if_neg (show ¬ X < Y by omega), if_neg (show ¬ 2 * X = 2 * Y by omega), if_neg (show ¬ X = Y by omega)]
theorem near_inside {C m : Nat} {e k least p j : Int} {top lo hi : Nat} (h : nearB C e m k least top = true) (hp : 0 ≤ e + p)
    (hw : (m = top ∧ least < k ∧ lo = 4 * m - 1 ∧ hi = 4 * m + 2 ∧ j = k - 2) ∨ (¬(m = top ∧ least < k) ∧ lo = 2 * m - 1 ∧ hi = 2 * m + 1 ∧ j = k - 1)) :
    Inside (C * 10 ^ (e + p).toNat) lo hi (numA j p) (denB j p) (m % 2) := by
  unfold nearB at h
  simp only [Bool.and_eq_true, Bool.or_eq_true, decide_eq_true_eq, beq_iff_eq] at h
  have hb : ∃ y, y = hi ∧ sideN C e (2 * m + 1) (k - 1) = sideN C e y j := by
    rcases hw with ⟨_, _, _, h2, h3⟩ | ⟨_, _, h2, h3⟩
    · refine ⟨hi, rfl, ?_⟩
      rw [h2, h3]
      unfold sideN
      have e1 : (-(k - 2)).toNat = (-(k - 1)).toNat + 1 ∧ (k - 2).toNat = (k - 1).toNat ∨ (-(k - 2)).toNat = (-(k - 1)).toNat ∧ (k - 1).toNat = (k - 2).toNat + 1 := by omega
      have e4 : 4 * m + 2 = 2 * (2 * m + 1) := by omega
      rcases e1 with ⟨e1, e2⟩ | ⟨e1, e2⟩
      · rw [e1, e2, e4, Nat.pow_succ]
        have a1 : C * 10 ^ e.toNat * (2 ^ (-(k - 1)).toNat * 2) = 2 * (C * 10 ^ e.toNat * 2 ^ (-(k - 1)).toNat) := by simp only [Nat.mul_assoc, Nat.mul_comm, Nat.mul_left_comm]
        have a2 : 2 * (2 * m + 1) * 10 ^ (-e).toNat * 2 ^ (k - 1).toNat = 2 * ((2 * m + 1) * 10 ^ (-e).toNat * 2 ^ (k - 1).toNat) := by simp only [Nat.mul_assoc]
        rw [a1, a2, cmp_two]
      · rw [e1, e2, e4, Nat.pow_succ]
        have a2 : 2 * (2 * m + 1) * 10 ^ (-e).toNat * 2 ^ (k - 2).toNat = (2 * m + 1) * 10 ^ (-e).toNat * (2 ^ (k - 2).toNat * 2) := by simp only [Nat.mul_assoc, Nat.mul_comm, Nat.mul_left_comm]
        rw [a2]
    · exact ⟨hi, rfl, by rw [h2, h3]⟩
  obtain ⟨y, rfl, hb⟩ := hb
  have ha : (if m = top ∧ least < k then sideN C e (4 * m - 1) (k - 2) else sideN C e (2 * m - 1) (k - 1)) = sideN C e lo j := by
    rcases hw with ⟨h1, h2, h3, _, h4⟩ | ⟨h1, h3, _, h4⟩
    · rw [if_pos ⟨h1, h2⟩, h3, h4]
    · rw [if_neg h1, h3, h4]
  rw [ha, hb] at h
  have s1 := side_sign C lo e j p hp
  have s2 := side_sign C y e j p hp
  refine ⟨?_, ?_⟩
  · rcases h.1 with h1 | h1
    · exact .inl (s1.1 h1)
    · exact .inr ⟨s1.2.1 h1.1, h1.2⟩
  · rcases h.2 with h1 | h1
    · exact .inl (s2.2.2 h1)
    · exact .inr ⟨(s2.2.1 h1.1).symm, h1.2⟩
/-- The law: of a number in as few digits as may be, whatever has a digit less is not near. -/
theorem few_not {m d : Nat} {k least P : Int} {top : Nat} (hF : Few m k least top d P) (D : Nat) (E : Int) (hV : SameVal D E d P) (hD : D % 10 ≠ 0) (C : Nat) : nearB C (E + 1) m k least top = false := by
  obtain ⟨p, j, lo, hi, ⟨_, hP⟩, hw, hc⟩ := hF
  obtain ⟨a, b, hab, he⟩ := hV
  have hba : b ≤ a := by
    rcases Nat.lt_or_ge a b with h | h
    · exfalso
      obtain ⟨t, rfl⟩ := Nat.exists_eq_add_of_lt h
      rw [show a + t + 1 = (t + 1) + a by omega, Nat.pow_add, ← Nat.mul_assoc] at he
      have h1 := Nat.eq_of_mul_eq_mul_right (pow_pos10 a) he
      rw [Nat.pow_succ, ← Nat.mul_assoc] at h1
      omega
    · exact h
  obtain ⟨u, rfl⟩ := Nat.exists_eq_add_of_le hba
  rw [Nat.add_comm b u, Nat.pow_add, ← Nat.mul_assoc] at he
  have h1 := Nat.eq_of_mul_eq_mul_right (pow_pos10 b) he
  cases hn : nearB C (E + 1) m k least top
  · rfl
  · exfalso
    have hEp : 0 ≤ E + p := by omega
    have hI := near_inside hn (p := p) (by omega) hw
    rw [show (E + 1 + p).toNat = (E + p).toNat + 1 by omega, Nat.pow_succ, show C * (10 ^ (E + p).toNat * 10) = 10 * (C * 10 ^ (E + p).toNat) by rw [← Nat.mul_assoc, Nat.mul_comm]] at hI
    obtain ⟨h2, h3⟩ := hc _ hI
    rw [← h1, show (E + p).toNat = u + 1 by omega, Nat.pow_succ, Nat.mul_comm (10 ^ u), ← Nat.mul_assoc] at h2
    have h4 := Nat.eq_of_mul_eq_mul_right (pow_pos10 u) h2
    omega
end Go.Proofs.YtnfddblpenninaaDoor
/- What number a float's text is. Plain laws. -/
namespace Go.Proofs.YtnfddblpenninaaDoor
open Go.RowKit

/-- A number in decimal as it is read. -/
structure TextX (neg : Bool) (s : ByteArray) (l sg xs : List UInt8) : Prop where
  str : s.data.toList = signed neg (l ++ 101 :: (sg ++ xs))
  plain : Plain l
  len : l.length ≤ 500
  cnt : 0 < cntD l
  sgn : sg = [] ∨ sg = [43] ∨ sg = [45]
  dig : IsDig xs
  pos : 0 < xs.length
  three : xs.length ≤ 3
/-- A text is the number D times 10 to the E. -/
def NumText (neg : Bool) (T : ByteArray) (D : Nat) (E : Int) : Prop :=
  (∃ l, T.data.toList = signed neg l ∧ Plain l ∧ l.length ≤ 500 ∧ 0 < cntD l ∧ D = numD l ∧ E = -(behindD l l.length : Int)) ∨
  (∃ l sg xs, TextX neg T l sg xs ∧ D = numD l ∧ E = -(behindD l l.length : Int) + expV sg xs)
/-- The text says the float in as few digits as may be. -/
def NumOf (neg : Bool) (T : List UInt8) (m : Nat) (k least : Int) (top : Nat) : Prop :=
  ∃ (D : Nat) (E : Int), NumText neg ⟨T.toArray⟩ D E ∧ ((∃ n, 1 ≤ n ∧ n ≤ 450 ∧ D < 10 ^ n) ∧ -500 ≤ E ∧ E ≤ 420) ∧ ((m = 0 ∧ D = 0) ∨ ∃ (d : Nat) (P : Int), m ≠ 0 ∧ 1 ≤ d ∧ Few m k least top d P ∧ SameVal D E d P)
theorem sgn_signed (neg : Bool) (l : List UInt8) : sgnF neg ++ l = signed neg l := by cases neg <;> rfl
theorem signed_app (neg : Bool) (l m : List UInt8) : signed neg l ++ m = signed neg (l ++ m) := by cases neg <;> rfl
theorem arr_list (l : List UInt8) : (⟨l.toArray⟩ : ByteArray).data.toList = l := rfl
/-- The digits with a point behind the first. -/
def manE (ds : List UInt8) : List UInt8 := ds.take 1 ++ moreE ds
theorem man_facts (ds : List UInt8) (hd : IsDig ds) (h0 : 0 < ds.length) (h17 : ds.length ≤ 17) : Plain (manE ds) ∧ (manE ds).length ≤ 500 ∧ 0 < cntD (manE ds) ∧ numD (manE ds) = numL ds ∧ behindD (manE ds) (manE ds).length = ds.length - 1 := by
  obtain ⟨x, r, rfl⟩ : ∃ x r, ds = x :: r := by
    cases ds with
    | nil => simp at h0
    | cons c r => exact ⟨c, r, rfl⟩
  have hx := hd x (List.mem_cons_self ..)
  have hr : IsDig r := fun c hc => hd c (List.mem_cons_of_mem _ hc)
  have hx1 : IsDig [x] := fun c hc => by rw [List.mem_singleton.1 hc]; exact hx
  rcases Nat.eq_zero_or_pos r.length with h | h
  · obtain rfl := List.length_eq_zero_iff.1 h
    have e : manE [x] = [x] := rfl
    rw [e]
    exact ⟨fun c hc => .inr (hx1 c hc), by simp, cnt_pos hx, numD_dig hx1, by rw [behind_dig hx1]; rfl⟩
  · have e : manE (x :: r) = [x] ++ 46 :: r := by
      unfold manE moreE
      rw [if_pos (by simp; omega)]
      rfl
    rw [e]
    refine ⟨fun c hc => ?_, by simp at h17 ⊢; omega, cnt_pos hx, numD_plain hx1 hr, ?_⟩
    · rcases List.mem_append.1 hc with h | h
      · exact .inr (hx1 c h)
      · rcases List.mem_cons.1 h with rfl | h
        · exact .inl rfl
        · exact .inr (hr c h)
    · rw [behind_plain hr]
      simp
theorem exp_facts (a : Nat) (h : a < 1000) : IsDig (expD a) ∧ numL (expD a) = a ∧ 0 < (expD a).length ∧ (expD a).length ≤ 3 := by
  unfold expD
  by_cases h10 : a < 10
  · rw [if_pos h10]
    have h1 := digit_nat a h10
    refine ⟨fun c hc => ?_, ?_, by simp, by simp⟩
    · simp only [List.mem_cons, List.not_mem_nil, or_false] at hc
      rcases hc with rfl | rfl
      · decide
      · omega
    · simp only [numL, List.foldl_cons, List.foldl_nil, stepL, h1]
      rw [show (48 : UInt8).toNat = 48 from rfl]
      omega
  · rw [if_neg h10]
    by_cases h100 : a < 100
    · rw [if_pos h100]
      have h1 := digit_nat (a / 10) (by omega)
      have h2 := digit_nat (a % 10) (by omega)
      refine ⟨fun c hc => ?_, ?_, by simp, by simp⟩
      · simp only [List.mem_cons, List.not_mem_nil, or_false] at hc
        rcases hc with rfl | rfl <;> omega
      · simp only [numL, List.foldl_cons, List.foldl_nil, stepL, h1, h2]
        omega
    · rw [if_neg h100]
      have h1 := digit_nat (a / 100) (by omega)
      have h2 := digit_nat (a / 10 % 10) (by omega)
      have h3 := digit_nat (a % 10) (by omega)
      refine ⟨fun c hc => ?_, ?_, by simp, by simp⟩
      · simp only [List.mem_cons, List.not_mem_nil, or_false] at hc
        rcases hc with rfl | rfl | rfl <;> omega
      · simp only [numL, List.foldl_cons, List.foldl_nil, stepL, h1, h2, h3]
        omega
theorem numL_17 (ds : List UInt8) (hd : IsDig ds) (h0 : 0 < ds.length) (h : ds.length ≤ 450) : ∃ n, 1 ≤ n ∧ n ≤ 450 ∧ numL ds < 10 ^ n := ⟨ds.length, h0, h, numL_lt ds hd⟩
theorem same_e {ds : List UInt8} {d N : Nat} {P dp : Int} (h1 : ds.length ≤ N) (h2 : numL ds * 10 ^ (N - ds.length) = d) (h3 : dp = N + P) : SameVal (numL ds) (dp - ds.length) d P :=
  ⟨N - ds.length, 0, by omega, by rw [h2, Nat.pow_zero, Nat.mul_one]⟩
/-- With an exponent, whatever digits say it. -/
theorem num_e (neg : Bool) (ds xs : List UInt8) (dp : Int) (sg : List UInt8) {m : Nat} {k least : Int} {top : Nat} (hm : m ≠ 0) (hS : ShortDs m k least top ds dp) (hsg : sg = [] ∨ sg = [43] ∨ sg = [45]) (hxs : IsDig xs) (h0 : 0 < xs.length) (h3 : xs.length ≤ 3) (hv : expV sg xs = dp - 1) :
    NumOf neg (signed neg (manE ds ++ 101 :: (sg ++ xs))) m k least top := by
  obtain ⟨d, N, P, ⟨g1, g2⟩, g3, ⟨g4, g5, g6⟩, g7, g8, g9, g10⟩ := hS
  obtain ⟨f1, f2, f3, f4, f5⟩ := man_facts ds g3 g4 (by omega)
  refine ⟨numL ds, dp - ds.length, .inr ⟨manE ds, sg, xs, ⟨arr_list _, f1, f2, f3, hsg, hxs, h0, h3⟩, f4.symm, ?_⟩, ⟨numL_17 ds g3 g4 (by omega), by omega, by omega⟩, .inr ⟨d, P, hm, g1, g2, same_e g5 g7 g8⟩⟩
  rw [f5, hv]
  omega
/-- A float's text with an exponent: its last four bytes, and what it says with and without the 0 ahead of the exponent's digit. -/
theorem tail_e (neg : Bool) (ds : List UInt8) (dp : Int) {m : Nat} {k least : Int} {top : Nat} (hm : m ≠ 0) (hS : ShortDs m k least top ds dp) :
    ∃ (l0 : List UInt8) (x4 x3 x2 x1 : UInt8), textE neg ds dp = l0 ++ [x4, x3, x2, x1] ∧ l0.length ≤ 100 ∧
      ((x4 = 101 ∧ x3 = 45 ∧ x2 = 48 ∧ NumOf neg (l0 ++ [101, 45, x1]) m k least top) ∨ (¬(x4 = 101 ∧ x3 = 45 ∧ x2 = 48) ∧ NumOf neg (textE neg ds dp) m k least top)) := by
  have hS' := hS
  obtain ⟨d, N, P, ⟨g1, g2⟩, g3, ⟨g4, g5, g6⟩, g7, g8, g9, g10⟩ := hS'
  obtain ⟨a, ha⟩ : ∃ a, a = (dp - 1).natAbs := ⟨_, rfl⟩
  have ha9 : a < 1000 := by omega
  obtain ⟨e1, e2, e3, e4⟩ := exp_facts a ha9
  have hml : (manE ds).length ≤ 18 := by
    unfold manE moreE
    rw [List.length_append, List.length_take]
    split
    · rw [List.length_cons, List.length_drop]; omega
    · simp; omega
  have hpl : (signed neg (manE ds)).length ≤ 19 := by
    unfold signed
    split
    · rw [List.length_cons]; omega
    · omega
  have ht : textE neg ds dp = signed neg (manE ds) ++ (101 :: signE (dp - 1) :: expD a) := by
    unfold textE
    rw [← ha]
    show sgnF neg ++ manE ds ++ _ = _
    rw [sgn_signed]
  have hsE : signE (dp - 1) = if dp - 1 < 0 then 45 else 43 := rfl
  have hN : NumOf neg (textE neg ds dp) m k least top := by
    rw [ht, signed_app]
    refine num_e neg ds (expD a) dp [signE (dp - 1)] hm hS ?_ e1 e3 e4 ?_
    · rw [hsE]
      split
      · exact .inr (.inr rfl)
      · exact .inr (.inl rfl)
    · rw [hsE]
      split
      · rw [expV, if_pos rfl, e2]
        omega
      · rw [expV, if_neg (by decide), e2]
        omega
  by_cases h10 : a < 10
  · have hx : expD a = [48, UInt8.ofNat (48 + a)] := by unfold expD; rw [if_pos h10]
    refine ⟨signed neg (manE ds), 101, signE (dp - 1), 48, UInt8.ofNat (48 + a), by rw [ht, hx], by omega, ?_⟩
    by_cases hneg : dp - 1 < 0
    · refine .inl ⟨rfl, by rw [hsE, if_pos hneg], rfl, ?_⟩
      rw [signed_app]
      have h1 := digit_nat a h10
      refine num_e neg ds [UInt8.ofNat (48 + a)] dp [45] hm hS (.inr (.inr rfl)) (fun c hc => ?_) (by simp) (by simp) ?_
      · rw [List.mem_singleton.1 hc]
        omega
      · rw [expV, if_pos rfl, numL_one, h1]
        omega
    · refine .inr ⟨fun h => ?_, hN⟩
      rw [hsE, if_neg hneg] at h
      exact absurd h.2.1 (by decide)
  · by_cases h100 : a < 100
    · have hx : expD a = [UInt8.ofNat (48 + a / 10), UInt8.ofNat (48 + a % 10)] := by unfold expD; rw [if_neg h10, if_pos h100]
      refine ⟨signed neg (manE ds), 101, signE (dp - 1), UInt8.ofNat (48 + a / 10), UInt8.ofNat (48 + a % 10), by rw [ht, hx], by omega, .inr ⟨fun h => ?_, hN⟩⟩
      have h1 := digit_nat (a / 10) (by omega)
      rw [h.2.2] at h1
      rw [show (48 : UInt8).toNat = 48 from rfl] at h1
      omega
    · have hx : expD a = [UInt8.ofNat (48 + a / 100), UInt8.ofNat (48 + a / 10 % 10), UInt8.ofNat (48 + a % 10)] := by unfold expD; rw [if_neg h10, if_neg h100]
      refine ⟨signed neg (manE ds) ++ [101], signE (dp - 1), UInt8.ofNat (48 + a / 100), UInt8.ofNat (48 + a / 10 % 10), UInt8.ofNat (48 + a % 10), by rw [ht, hx]; simp, by rw [List.length_append]; simp; omega, .inr ⟨fun h => ?_, hN⟩⟩
      have h1 := h.1
      rw [hsE] at h1
      split at h1
      · exact absurd h1 (by decide)
      · exact absurd h1 (by decide)
/-- Without an exponent. -/
theorem num_f (neg : Bool) (ds : List UInt8) (dp : Int) {m : Nat} {k least : Int} {top : Nat} (hm : m ≠ 0) (hS : ShortDs m k least top ds dp) : NumOf neg (textF neg ds dp (ds.length - dp).toNat) m k least top := by
  obtain ⟨d, N, P, ⟨g1, g2⟩, g3, ⟨g4, g5, g6⟩, g7, g8, g9, g10⟩ := hS
  obtain ⟨prec, hp⟩ : ∃ prec, prec = ((ds.length : Int) - dp).toNat := ⟨_, rfl⟩
  rw [← hp]
  have hX := fracX_len ds dp prec
  have hI0 : IsDig (intF ds dp) := by
    unfold intF
    split
    · exact isDig_append (isDig_take g3 _) (isDig_zeros _)
    · exact isDig_zeros 1
  have hI1 : 0 < (intF ds dp).length := by
    unfold intF
    split
    · rw [List.length_append, List.length_take, List.length_replicate]
      omega
    · simp
  have hI2 : (intF ds dp).length + prec ≤ 450 := by
    unfold intF
    split
    · rw [List.length_append, List.length_take, List.length_replicate]
      omega
    · simp
      omega
  have hF : IsDig (fracX ds dp prec) := isDig_append (isDig_zeros _) (isDig_append (isDig_take (isDig_drop g3 _) _) (isDig_zeros _))
  have hnum := text_num ds dp prec (by omega)
  have hD := numL_17 _ (isDig_append hI0 hF) (by rw [List.length_append]; omega) (by rw [List.length_append, hX]; omega)
  have hV : SameVal (numL (intF ds dp ++ fracX ds dp prec)) (-(prec : Int)) d P := by
    refine ⟨(-(prec : Int) - P).toNat, (prec + P).toNat, by omega, ?_⟩
    rw [hnum, ← g7, Nat.mul_assoc, Nat.mul_assoc, ← Nat.pow_add, ← Nat.pow_add]
    congr 2
    omega
  obtain ⟨c, r, hcr⟩ : ∃ c r, intF ds dp = c :: r := by
    cases h : intF ds dp with
    | nil => rw [h] at hI1; simp at hI1
    | cons c r => exact ⟨c, r, rfl⟩
  have hc := hI0 c (by rw [hcr]; exact List.mem_cons_self ..)
  rw [text_eq]
  by_cases hp0 : 0 < prec
  · rw [if_pos hp0]
    refine ⟨_, -(prec : Int), .inl ⟨intF ds dp ++ 46 :: fracX ds dp prec, arr_list _, fun x hx => ?_, by rw [List.length_append, List.length_cons, hX]; omega, by rw [hcr]; exact cnt_pos hc, (numD_plain hI0 hF).symm, by rw [behind_plain hF, hX]⟩, ⟨hD, by omega, by omega⟩, .inr ⟨d, P, hm, g1, g2, hV⟩⟩
    rcases List.mem_append.1 hx with h | h
    · exact .inr (hI0 x h)
    · rcases List.mem_cons.1 h with rfl | h
      · exact .inl rfl
      · exact .inr (hF x h)
  · rw [if_neg hp0]
    have hp00 : prec = 0 := by omega
    have hX0 : fracX ds dp prec = [] := List.length_eq_zero_iff.1 (by omega)
    rw [hX0, List.append_nil] at hD hV
    exact ⟨_, -(prec : Int), .inl ⟨intF ds dp, arr_list _, fun x hx => .inr (hI0 x hx), by omega, by rw [hcr]; exact cnt_pos hc, (numD_dig hI0).symm, by rw [behind_dig hI0, hp00]⟩, ⟨hD, by omega, by omega⟩, .inr ⟨d, P, hm, g1, g2, hV⟩⟩
/-- Nought. -/
theorem num_z (neg : Bool) (k least : Int) (top : Nat) : NumOf neg (sgnF neg ++ [48]) 0 k least top := by
  rw [sgn_signed]
  refine ⟨0, 0, .inl ⟨[48], arr_list _, fun x hx => .inr (by rw [List.mem_singleton.1 hx]; decide), by simp, by simp [cntD, stepC], by simp [numD, stepD], by simp [behindD]⟩, ⟨⟨1, by decide, by decide, by decide⟩, by omega, by omega⟩, .inl ⟨rfl, rfl⟩⟩
end Go.Proofs.YtnfddblpenninaaDoor
