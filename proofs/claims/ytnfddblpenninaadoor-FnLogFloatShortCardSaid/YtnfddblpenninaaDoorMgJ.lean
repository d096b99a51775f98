/- Unrounded numbers: rounded, they are the nearest ones; what a text's check asks of a nearest number. (Plain law.) -/
import Derived.Test.YtnfddblpenninaaDoorMgI
namespace Go.Proofs.YtnfddblpenninaaDoor
open Go.RowKit

theorem or_one (x : Nat) : x ||| 1 = x / 2 * 2 + 1 := by
  have h : x ||| 1 = (x / 2 * 2) ||| 1 := by
    apply Nat.eq_of_testBit_eq
    intro i
    rw [Nat.testBit_or, Nat.testBit_or]
    cases i with
    | zero => simp
    | succ i => rw [Nat.testBit_succ, Nat.testBit_succ, Nat.testBit_succ, Nat.mul_div_cancel _ (by decide : 0 < 2)]
  rw [h, Nat.mul_comm]
  exact (Nat.two_pow_add_eq_or_of_lt (i := 1) (b := 1) (by decide) (x / 2)).symm
/-- Four times num / den, its last bit set where something is left. -/
def unr (num den : Nat) : Nat := 4 * num / den ||| (if 4 * num % den ≠ 0 then 1 else 0)
theorem unr_eq (num den : Nat) : unr num den = if 4 * num % den ≠ 0 then 4 * num / den / 2 * 2 + 1 else 4 * num / den := by
  unfold unr
  split
  · rw [or_one]
  · rw [Nat.or_zero]
theorem round_half (num den : Nat) (hd : 0 < den) : Half (roundU (unr num den)) num den := by
  have h1 := Nat.div_add_mod (4 * num) den
  have h2 := Nat.mod_lt (4 * num) hd
  obtain ⟨q, hq⟩ : ∃ q, q = 4 * num / den := ⟨_, rfl⟩
  obtain ⟨r, hr⟩ : ∃ r, r = 4 * num % den := ⟨_, rfl⟩
  rw [unr_eq]
  rw [← hq, ← hr] at h1 ⊢
  rw [← hr] at h2
  obtain ⟨a, b, rfl, hb⟩ : ∃ a b, q = 4 * a + b ∧ b < 4 := ⟨q / 4, q % 4, by omega, by omega⟩
  obtain ⟨E, hE⟩ : ∃ E, E = a * den := ⟨_, rfl⟩
  have e0 : den * (4 * a + b) = 4 * E + b * den := by rw [hE, Nat.mul_comm, Nat.add_mul, Nat.mul_assoc]
  rw [e0] at h1
  have ea : ∀ x, x = a → (2 * x + 1) * den = 2 * E + den := fun x hx => by rw [hx, hE, Nat.add_mul, Nat.one_mul, Nat.mul_assoc]
  have ea1 : a = 0 ∨ (2 * a - 1) * den + den = 2 * E := by
    rcases Nat.eq_zero_or_pos a with h | h
    · exact .inl h
    · right
      rw [← Nat.succ_mul, show (2 * a - 1).succ = 2 * a by omega, Nat.mul_assoc, hE]
  have eb : (2 * (a + 1) + 1) * den = 2 * E + 3 * den := by rw [show 2 * (a + 1) + 1 = 2 * a + 3 by omega, Nat.add_mul, Nat.mul_assoc, hE]
  have eb1 : (2 * (a + 1) - 1) * den = 2 * E + den := by rw [show 2 * (a + 1) - 1 = 2 * a + 1 by omega]; exact ea a rfl
  have lo : roundU (if r ≠ 0 then (4 * a + b) / 2 * 2 + 1 else 4 * a + b) = a ∨ roundU (if r ≠ 0 then (4 * a + b) / 2 * 2 + 1 else 4 * a + b) = a + 1 := by
    unfold roundU
    split <;> omega
  have hcase : b = 0 ∨ b = 1 ∨ b = 2 ∨ b = 3 := by omega
  rcases lo with h | h
  · rw [h]
    unfold Half
    rw [ea a rfl]
    unfold roundU at h
    rcases hcase with rfl | rfl | rfl | rfl
    all_goals
      rcases ea1 with e | e
      · refine ⟨.inl e, ?_⟩
        split at h <;> omega
      · constructor
        · right
          split at h <;> omega
        · split at h <;> omega
  · rw [h]
    unfold Half
    rw [eb, eb1]
    unfold roundU at h
    rcases hcase with rfl | rfl | rfl | rfl
    all_goals
      constructor
      · right
        split at h <;> omega
      · split at h <;> omega
theorem unr_div (num den : Nat) (hd : 0 < den) : unr num (10 * den) = divU (unr num den) 10 := by
  have h1 := Nat.div_add_mod (4 * num) den
  have h2 := Nat.mod_lt (4 * num) hd
  have e1 : 4 * num / (10 * den) = 4 * num / den / 10 := by rw [Nat.mul_comm 10 den, Nat.div_div_eq_div_mul]
  have e2 : 4 * num % (10 * den) = den * (4 * num / den % 10) + 4 * num % den := by
    have h3 := Nat.mod_mul_right_div_self (4 * num) den 10
    have h4 : 4 * num % (den * 10) % den = 4 * num % den := Nat.mod_mul_right_mod (4 * num) den 10
    rw [Nat.mul_comm 10 den, ← h3, ← h4]
    exact (Nat.div_add_mod _ _).symm
  rw [unr_eq, unr_eq num den, e1, e2]
  obtain ⟨q, hq⟩ : ∃ q, q = 4 * num / den := ⟨_, rfl⟩
  obtain ⟨r, hr⟩ : ∃ r, r = 4 * num % den := ⟨_, rfl⟩
  rw [← hq, ← hr]
  have hz : (den * (q % 10) + r = 0) ↔ q % 10 = 0 ∧ r = 0 := by
    constructor
    · intro h
      have h5 : den * (q % 10) = 0 := by omega
      rcases Nat.mul_eq_zero.1 h5 with h | h
      · omega
      · exact ⟨h, by omega⟩
    · rintro ⟨h, h'⟩
      rw [h, h', Nat.mul_zero]
  unfold divU
  by_cases hr0 : r = 0
  · have i1 : (if r ≠ 0 then q / 2 * 2 + 1 else q) = q := if_neg (fun h => h hr0)
    rw [i1]
    by_cases hq0 : q % 10 = 0
    · rw [if_neg (by rw [Classical.not_not, hz]; exact ⟨hq0, hr0⟩), if_neg (by omega), show q % 2 = 0 by omega, Nat.or_zero, Nat.or_zero]
    · rw [if_pos (by rw [ne_eq, hz]; omega), if_pos hq0]
      rcases Nat.mod_two_eq_zero_or_one q with h | h
      · rw [h, Nat.or_zero, or_one]
      · rw [h, or_one, or_one]
        omega
  · have i1 : (if r ≠ 0 then q / 2 * 2 + 1 else q) = q / 2 * 2 + 1 := if_pos hr0
    rw [i1, if_pos (by rw [ne_eq, hz]; omega), show (q / 2 * 2 + 1) % 2 = 1 by omega, or_one]
    rw [if_pos (by omega), or_one]
    omega
/-- What 'uscale' computes where nothing is left of the power's low word and the number is even. -/
theorem uscale_exact (x hi s : Nat) (hx : x % 2 = 0) : uscaleN x hi 0 s = unr (x * hi) (2 ^ (66 + s)) := by
  obtain ⟨P, hP⟩ : ∃ P, P = x * hi := ⟨_, rfl⟩
  have hev : P % 2 = 0 := by rw [hP, Nat.mul_mod, hx, Nat.zero_mul, Nat.zero_mod]
  have e66 : 2 ^ (66 + s) = 4 * (18446744073709551616 * 2 ^ s) := by rw [Nat.pow_add, ← Nat.mul_assoc]
  have h2s : 0 < 2 ^ s := Nat.pow_pos (by decide)
  unfold unr uscaleN
  rw [← hP, e66, Nat.mul_div_mul_left _ _ (by decide : 0 < 4), ← Nat.div_div_eq_div_mul, Nat.mul_mod_mul_left, Nat.mod_mul, Nat.mul_zero, Nat.zero_div]
  obtain ⟨h, hh⟩ : ∃ h, h = P / 18446744073709551616 := ⟨_, rfl⟩
  obtain ⟨m, hm⟩ : ∃ m, m = P % 18446744073709551616 := ⟨_, rfl⟩
  have hm2 : m % 2 = 0 := by omega
  rw [← hh, ← hm]
  by_cases h0 : h % 2 ^ s ≠ 0
  · rw [if_pos h0, if_pos (by omega)]
  · rw [if_neg h0, if_neg (by omega)]
    congr 1
    rw [Classical.not_not] at h0
    rw [h0, Nat.mul_zero, Nat.add_zero, Nat.sub_zero]
    by_cases hm0 : m = 0
    · rw [if_neg (by omega), if_neg (by omega)]
    · rw [if_pos (by omega), if_pos (by omega)]
theorem cmp_scale (a b c : Nat) (hc : 0 < c) : cmpN (a * c) (b * c) = cmpN a b := by
  unfold cmpN
  simp only [Nat.mul_lt_mul_right hc, Nat.mul_left_inj (Nat.ne_of_gt hc)]
/-- A nearest number passes the check. -/
theorem right_of_half (D prec m num den : Nat) (k : Int) (h : Half D num den) (hd : 0 < den) (he : num * 2 ^ (-k).toNat = m * 10 ^ prec * 2 ^ k.toNat * den) : Right D prec m k := by
  have key : ∀ X, sideN X (-(prec : Int)) m (k + 1) = cmpN (X * den) (2 * num) := fun X => by
    unfold sideN
    rw [show (-(prec : Int)).toNat = 0 by omega, show (-(-(prec : Int))).toNat = prec by omega, Nat.pow_zero, Nat.mul_one]
    obtain ⟨a, ha⟩ : ∃ a, a = 2 ^ (-k).toNat := ⟨_, rfl⟩
    obtain ⟨b, hb⟩ : ∃ b, b = 2 ^ k.toNat := ⟨_, rfl⟩
    obtain ⟨a', ha'⟩ : ∃ a', a' = 2 ^ (-(k + 1)).toNat := ⟨_, rfl⟩
    obtain ⟨b', hb'⟩ : ∃ b', b' = 2 ^ (k + 1).toNat := ⟨_, rfl⟩
    have ha0 : 0 < a := by rw [ha]; exact Nat.pow_pos (by decide)
    have ha0' : 0 < a' := by rw [ha']; exact Nat.pow_pos (by decide)
    have hrel : 2 * b * a' = b' * a := by
      rw [ha, hb, ha', hb']
      rcases Int.lt_or_le k 0 with hk | hk
      · rw [show k.toNat = 0 by omega, show (k + 1).toNat = 0 by omega, show (-k).toNat = (-(k + 1)).toNat + 1 by omega, Nat.pow_succ]
        omega
      · rw [show (-k).toNat = 0 by omega, show (-(k + 1)).toNat = 0 by omega, show (k + 1).toNat = k.toNat + 1 by omega, Nat.pow_succ]
        omega
    rw [← ha, ← hb] at he
    rw [← ha', ← hb', ← cmp_scale (X * a') (m * 10 ^ prec * b') (a * den) (Nat.mul_pos ha0 hd), ← cmp_scale (X * den) (2 * num) (a * a') (Nat.mul_pos ha0 ha0')]
    congr 1
    · simp only [Nat.mul_comm, Nat.mul_left_comm]
    · have h1 : 2 * num * (a * a') = 2 * (num * a) * a' := by simp only [Nat.mul_assoc]
      have h2 : m * 10 ^ prec * b' * (a * den) = m * 10 ^ prec * den * (b' * a) := by simp only [Nat.mul_assoc, Nat.mul_comm, Nat.mul_left_comm]
      rw [h1, h2, he, ← hrel]
      simp only [Nat.mul_assoc, Nat.mul_comm, Nat.mul_left_comm]
  unfold Right
  rw [key, key]
  obtain ⟨h1, h2⟩ := h
  constructor
  · rcases h1 with h | h | ⟨h, he⟩
    · exact .inl h
    · by_cases h0 : D = 0
      · exact .inl h0
      · exact .inr (.inl ⟨h0, cmp_lt h⟩)
    · by_cases h0 : D = 0
      · exact .inl h0
      · exact .inr (.inr ⟨h0, cmp_eq h, he⟩)
  · rcases h2 with h | ⟨h, he⟩
    · exact .inl (cmp_gt h)
    · exact .inr ⟨cmp_eq h.symm, he⟩
end Go.Proofs.YtnfddblpenninaaDoor
/- What a float's text without an exponent is as a number. (Plain law.) -/
namespace Go.Proofs.YtnfddblpenninaaDoor
open Go.RowKit

/-- A text of digits, prec of them behind the point, that is the number D. -/
structure Good (l : List UInt8) (prec D : Nat) : Prop where
  plain : Plain l
  len : l.length ≤ 400
  cnt : 0 < cntD l
  beh : behindD l l.length = prec
  dot : prec = 0 → ∀ c ∈ l, c.toNat ≠ 46
  num : numD l = D
theorem dig_ne {c : UInt8} (h : 48 ≤ c.toNat ∧ c.toNat ≤ 57) : c.toNat ≠ 46 := by omega
theorem foldD {l : List UInt8} (h : IsDig l) : ∀ a, l.foldl stepD a = l.foldl stepL a := by
  induction l with
  | nil => intro a; rfl
  | cons c r ih =>
    intro a
    have h1 := h c (List.mem_cons_self ..)
    have e : stepD a c = stepL a c := by
      unfold stepD stepL
      rw [if_neg (by omega)]
    rw [List.foldl_cons, List.foldl_cons, e]
    exact ih (fun x hx => h x (List.mem_cons_of_mem _ hx)) _
theorem numD_plain {a b : List UInt8} (ha : IsDig a) (hb : IsDig b) : numD (a ++ 46 :: b) = numL (a ++ b) := by
  unfold numD
  rw [List.foldl_append, List.foldl_cons, show stepD (a.foldl stepD 0) 46 = a.foldl stepD 0 from if_pos rfl, foldD ha, foldD hb, numL, List.foldl_append]
theorem numD_dig {a : List UInt8} (ha : IsDig a) : numD a = numL a := foldD ha 0
theorem behind_skip (l : List UInt8) (k : Nat) : ∀ m, k ≤ m → m ≤ l.length → (∀ i (h : i < l.length), k ≤ i → i < m → l[i].toNat ≠ 46) → behindD l m = behindD l k
  | 0, h, _, _ => by rw [show k = 0 by omega]
  | m + 1, h, hm, hn => by
    rcases Nat.eq_or_lt_of_le h with rfl | h
    · rfl
    · rw [behindD, dif_pos (by omega), if_neg (hn m (by omega) (by omega) (by omega))]
      exact behind_skip l k m (by omega) (by omega) fun i h1 h2 h3 => hn i h1 h2 (by omega)
theorem behind_plain {a b : List UInt8} (hb : IsDig b) : behindD (a ++ 46 :: b) (a ++ 46 :: b).length = b.length := by
  have hl : (a ++ 46 :: b).length = a.length + 1 + b.length := by simp; omega
  rw [behind_skip (a ++ 46 :: b) (a.length + 1) _ (by omega) (Nat.le_refl _) (fun i h h1 _ => by
    rw [List.getElem_append_right (by omega), List.getElem_cons, dif_neg (by omega)]
    exact dig_ne (hb _ (List.getElem_mem _)))]
  rw [behindD, dif_pos (by omega), if_pos (by rw [List.getElem_append_right (Nat.le_refl _)]; simp)]
  omega
theorem behind_dig {a : List UInt8} (ha : IsDig a) : behindD a a.length = 0 := by
  rw [behind_skip a 0 _ (Nat.zero_le _) (Nat.le_refl _) (fun i h _ _ => dig_ne (ha _ (List.getElem_mem _)))]
  rfl
theorem cnt_mono (l : List UInt8) : ∀ a, a ≤ l.foldl stepC a := by
  induction l with
  | nil => intro a; exact Nat.le_refl _
  | cons c r ih =>
    intro a
    refine Nat.le_trans ?_ (ih (stepC a c))
    unfold stepC
    split <;> omega
theorem cnt_pos {c : UInt8} {r : List UInt8} (h : 48 ≤ c.toNat ∧ c.toNat ≤ 57) : 0 < cntD (c :: r) := by
  unfold cntD
  rw [List.foldl_cons, show stepC 0 c = 1 from if_neg (dig_ne h)]
  exact cnt_mono r 1
theorem good_of {I X : List UInt8} {prec D : Nat} (hI : IsDig I) (hX : IsDig X) (h0 : 0 < I.length) (hXl : X.length = prec) (hlen : I.length + prec ≤ 398) (hN : numL (I ++ X) = D) : Good (if 0 < prec then I ++ 46 :: X else I) prec D := by
  obtain ⟨c, r, rfl⟩ : ∃ c r, I = c :: r := by
    cases I with
    | nil => simp at h0
    | cons c r => exact ⟨c, r, rfl⟩
  have hc := hI c (List.mem_cons_self ..)
  split
  · refine ⟨fun x hx => ?_, by simp at hlen ⊢; omega, cnt_pos hc, by rw [behind_plain hX, hXl], fun h => by omega, by rw [numD_plain hI hX, hN]⟩
    rcases List.mem_append.1 hx with h | h
    · exact .inr (hI x h)
    · rcases List.mem_cons.1 h with rfl | h
      · exact .inl rfl
      · exact .inr (hX x h)
  · have hp0 : prec = 0 := by omega
    have hX0 : X = [] := List.length_eq_zero_iff.1 (by omega)
    rw [hX0, List.append_nil] at hN
    refine ⟨fun x hx => .inr (hI x hx), by omega, cnt_pos hc, by rw [behind_dig hI, hp0], fun _ x hx => dig_ne (hI x hx), by rw [numD_dig hI, hN]⟩
/-- The digits behind the point. -/
def fracX (ds : List UInt8) (dp : Int) (prec : Nat) : List UInt8 := List.replicate (leadF dp prec) 48 ++ ((ds.drop dp.toNat).take (prec - leadF dp prec) ++ List.replicate (prec - leadF dp prec - (ds.length - dp.toNat)) 48)
theorem text_eq (neg : Bool) (ds : List UInt8) (dp : Int) (prec : Nat) : textF neg ds dp prec = signed neg (if 0 < prec then intF ds dp ++ 46 :: fracX ds dp prec else intF ds dp) := by
  unfold textF sgnF signed fracT fracX
  by_cases hp : 0 < prec <;> cases neg <;> simp [hp]
theorem fracX_len (ds : List UInt8) (dp : Int) (prec : Nat) : (fracX ds dp prec).length = prec := by
  unfold fracX leadF
  rw [List.length_append, List.length_append, List.length_replicate, List.length_replicate, List.length_take, List.length_drop]
  omega
theorem numL_pad (l : List UInt8) (n : Nat) : numL (l ++ List.replicate n 48) = numL l * 10 ^ n := by rw [numL_append, numL_zeros, List.length_replicate, Nat.add_zero]
theorem numL_lead (n : Nat) (l : List UInt8) : numL (List.replicate n 48 ++ l) = numL l := by rw [numL_append, numL_zeros, Nat.zero_mul, Nat.zero_add]
theorem text_num (ds : List UInt8) (dp : Int) (prec : Nat) (hn : (ds.length : Int) ≤ dp + prec) : numL (intF ds dp ++ fracX ds dp prec) = numL ds * 10 ^ (dp + prec - ds.length).toNat := by
  unfold intF
  by_cases hd : 0 < dp
  · rw [if_pos hd]
    obtain ⟨d, rfl⟩ := Int.eq_ofNat_of_zero_le (Int.le_of_lt hd)
    have hz : leadF (d : Int) prec = 0 := by unfold leadF; omega
    unfold fracX
    rw [hz, Int.toNat_natCast, List.replicate_zero, List.nil_append, Nat.sub_zero]
    rcases Nat.lt_or_ge d ds.length with h | h
    · rw [show d - ds.length = 0 by omega, List.replicate_zero, List.append_nil, List.take_of_length_le (l := ds.drop d) (by rw [List.length_drop]; omega), ← List.append_assoc, List.take_append_drop, numL_pad]
      congr 2
      omega
    · rw [List.take_of_length_le (by omega), List.drop_of_length_le (by omega), List.take_nil, List.nil_append, List.append_assoc, List.replicate_append_replicate, numL_pad]
      congr 2
      omega
  · rw [if_neg hd]
    unfold fracX
    have hd0 : dp.toNat = 0 := by omega
    rw [hd0, List.drop_zero, Nat.sub_zero, show ([48] : List UInt8) = List.replicate 1 48 from rfl, ← List.append_assoc, List.replicate_append_replicate, numL_lead]
    rcases Nat.eq_zero_or_pos ds.length with h | h
    · obtain rfl := List.length_eq_zero_iff.1 h
      rw [List.take_nil, List.nil_append, numL_zeros]
      simp [numL]
    · have hz : leadF dp prec = (-dp).toNat := by unfold leadF; omega
      rw [hz, List.take_of_length_le (by omega), numL_pad]
      congr 2
      omega
/-- The text of some digits. -/
theorem text_good (neg : Bool) (ds : List UInt8) (dp : Int) (prec : Nat) (hds : IsDig ds) (hn : (ds.length : Int) ≤ dp + prec) (hd : dp ≤ 300) (hp : prec ≤ 50) :
    ∃ l, textF neg ds dp prec = signed neg l ∧ Good l prec (numL ds * 10 ^ (dp + prec - ds.length).toNat) := by
  refine ⟨_, text_eq neg ds dp prec, good_of ?_ ?_ ?_ (fracX_len ds dp prec) ?_ (text_num ds dp prec hn)⟩
  · unfold intF
    split
    · exact isDig_append (isDig_take hds _) (isDig_zeros _)
    · exact isDig_zeros 1
  · exact isDig_append (isDig_zeros _) (isDig_append (isDig_take (isDig_drop hds _) _) (isDig_zeros _))
  · unfold intF
    split
    · rw [List.length_append, List.length_take, List.length_replicate]
      omega
    · simp
  · have : (intF ds dp).length ≤ 300 := by
      unfold intF
      split
      · rw [List.length_append, List.length_take, List.length_replicate]
        omega
      · simp
    omega
end Go.Proofs.YtnfddblpenninaaDoor
/- How many digits a float with so many behind the point has at most; what comes of its scaling. (Plain law.) -/
namespace Go.Proofs.YtnfddblpenninaaDoor
open Go.RowKit

/-- The estimate of the digits. -/
def digsF (X : Int) (prec : Nat) : Int := if 0 ≤ X then 1 + (1 + X) * 78913 / 262144 + prec else 1 + prec - (-X) * 78913 / 262144
theorem few_zero (m prec : Nat) (X : Int) (hm : m < 9007199254740992) (hp : prec ≤ 12) (hd : digsF X prec ≤ 0) : Right 0 prec m (X - 52) := by
  have hX : X < 0 ∧ (prec : Int) + 1 ≤ (-X) * 78913 / 262144 := by
    unfold digsF at hd
    split at hd <;> omega
  obtain ⟨x, hx⟩ : ∃ x : Nat, -X = (x : Int) := ⟨(-X).toNat, by omega⟩
  rw [hx] at hX
  have key : 4 * 10 ^ prec ≤ 2 ^ x := by
    have h : ∀ n : Fin 13, ∀ x0 : Nat, x0 = (n.val + 1) * 262144 / 78913 → 4 * 10 ^ n.val ≤ 2 ^ x0 := by
      intro n x0 h
      subst h
      revert n
      decide +kernel
    exact Nat.le_trans (h ⟨prec, by omega⟩ _ rfl) (Nat.pow_le_pow_right (by decide) (by show (prec + 1) * 262144 / 78913 ≤ x; omega))
  refine right_of_half 0 prec m (m * 10 ^ prec) (2 ^ (52 + x)) (X - 52) ⟨.inl rfl, .inl ?_⟩ (Nat.pow_pos (by decide)) ?_
  · rw [Nat.pow_add]
    have h1 : 2 * (m * 10 ^ prec) < 2 * (9007199254740992 * 10 ^ prec) := Nat.mul_lt_mul_of_pos_left (Nat.mul_lt_mul_of_pos_right hm (Nat.pow_pos (by decide))) (by decide)
    have h2 : 2 ^ 52 * (4 * 10 ^ prec) ≤ 2 ^ 52 * 2 ^ x := Nat.mul_le_mul_left _ key
    omega
  · rw [show (-(X - 52)).toNat = 52 + x by omega, show (X - 52).toNat = 0 by omega, Nat.pow_zero, Nat.mul_one]
theorem two_ten : ∀ X : Fin 70, 2 ^ (X.val + 1) < 10 ^ ((1 + X.val) * 78913 / 262144 + 1) := by decide +kernel
set_option maxHeartbeats 2000000 in
/-- What fixedWidthFloat computes is right. -/
theorem width_plain (m prec n : Nat) (X : Int) (hm1 : 4503599627370496 ≤ m) (hm2 : m < 9007199254740992) (hX1 : -1022 ≤ X) (hX2 : X ≤ 69) (hp : prec ≤ 12) (hn : digsF X prec = (n : Int)) (hn1 : 1 ≤ n) (hn2 : n ≤ 18) :
    ∃ p s : Nat, (n : Int) - 1 - (X - 63 + 63) * 78913 / 262144 = (p : Int) ∧ (p = prec ∨ p = prec + 1) ∧ -(X - 63 + (p : Int) * 108853 / 32768 + 3) = (s : Int) ∧ s ≤ 63 ∧
      uscaleN (m * 2048) (rowP (348 + p)).1 (rowP (348 + p)).2 s < 9223372036854775808 ∧ (p = prec → uscaleN (m * 2048) (rowP (348 + p)).1 (rowP (348 + p)).2 s < 4 * 10 ^ n - 2) ∧
      roundU (fixU (uscaleN (m * 2048) (rowP (348 + p)).1 (rowP (348 + p)).2 s) p prec) < 10000000000000000000 ∧
      Right (roundU (fixU (uscaleN (m * 2048) (rowP (348 + p)).1 (rowP (348 + p)).2 s) p prec)) prec m (X - 52) := by
  obtain ⟨p, hpn⟩ : ∃ p : Nat, (n : Int) - 1 - X * 78913 / 262144 = (p : Int) := by
    refine ⟨((n : Int) - 1 - X * 78913 / 262144).toNat, ?_⟩
    unfold digsF at hn
    split at hn <;> omega
  have hpp : p = prec ∨ (p = prec + 1) := by
    unfold digsF at hn
    split at hn <;> omega
  have hp13 : p ≤ 13 := by omega
  obtain ⟨lp, hlp⟩ : ∃ lp, lp = p * 108853 / 32768 := ⟨_, rfl⟩
  obtain ⟨s, hs⟩ : ∃ s : Nat, -(X - 63 + (p : Int) * 108853 / 32768 + 3) = (s : Int) := ⟨(-(X - 63 + (p : Int) * 108853 / 32768 + 3)).toNat, by omega⟩
  have hs1 : 1 ≤ s ∧ s ≤ 63 := by omega
  have hrow : rowP (348 + p) = (10 ^ p * 2 ^ (63 - lp), 0) := by rw [hlp]; exact row_small ⟨p, by omega⟩
  have hhi : (rowP (348 + p)).1 < 18446744073709551616 := by
    have h : ∀ p : Fin 14, (rowP (348 + p.val)).1 < 18446744073709551616 := by decide +kernel
    exact h ⟨p, by omega⟩
  have hlp63 : lp ≤ 63 := by omega
  rw [hrow] at hhi
  obtain ⟨P, hP⟩ : ∃ P, P = m * 2048 * (10 ^ p * 2 ^ (63 - lp)) := ⟨_, rfl⟩
  obtain ⟨den, hden⟩ : ∃ den, den = 2 ^ (66 + s) := ⟨_, rfl⟩
  have hd0 : 0 < den := by rw [hden]; exact Nat.pow_pos (by decide)
  have hu : uscaleN (m * 2048) (rowP (348 + p)).1 (rowP (348 + p)).2 s = unr P den := by
    rw [hrow]
    show uscaleN (m * 2048) (10 ^ p * 2 ^ (63 - lp)) 0 s = _
    rw [uscale_exact _ _ _ (by omega), hP, hden]
  have hrel : P * 2 ^ (-(X - 52)).toNat = m * 10 ^ p * 2 ^ (X - 52).toNat * den := by
    rw [hP, hden, show (2048 : Nat) = 2 ^ 11 from rfl]
    have h1 : m * 2 ^ 11 * (10 ^ p * 2 ^ (63 - lp)) * 2 ^ (-(X - 52)).toNat = m * 10 ^ p * (2 ^ 11 * 2 ^ (63 - lp) * 2 ^ (-(X - 52)).toNat) := by
      simp only [Nat.mul_assoc, Nat.mul_comm, Nat.mul_left_comm]
    rw [h1, Nat.mul_assoc (m * 10 ^ p), ← Nat.pow_add, ← Nat.pow_add, ← Nat.pow_add]
    congr 2
    omega
  have hub : unr P den < 9223372036854775808 := by
    rw [unr_eq]
    have hPl : P < 18446744073709551616 * 18446744073709551616 := by
      rw [hP]
      exact Nat.lt_of_le_of_lt (Nat.mul_le_mul_right _ (by omega : m * 2048 ≤ 18446744073709551615)) (by omega)
    have h4 : 4 * P / den < 9223372036854775808 := by
      refine Nat.div_lt_of_lt_mul ?_
      have : 2 ^ 67 ≤ den := by rw [hden]; exact Nat.pow_le_pow_right (by decide) (by omega)
      have h5 : 2 ^ 67 * 9223372036854775808 ≤ den * 9223372036854775808 := Nat.mul_le_mul_right _ this
      omega
    split <;> omega
  have hxx : (X - 63 + 63) = X := by omega
  refine ⟨p, s, by rw [hxx]; exact hpn, hpp, hs, hs1.2, by rw [hu]; exact hub, ?_, ?_, ?_⟩
  · intro he
    subst he
    rw [hu]
    have hX0 : 0 ≤ X := by
      unfold digsF at hn
      split at hn <;> omega
    obtain ⟨x, rfl⟩ := Int.eq_ofNat_of_zero_le hX0
    have h10 := two_ten ⟨x, by omega⟩
    simp only at h10
    obtain ⟨L, hL⟩ : ∃ L, L = (1 + x) * 78913 / 262144 := ⟨_, rfl⟩
    rw [← hL] at h10
    have hnL : n = L + 1 + p := by
      unfold digsF at hn
      rw [if_pos (by omega)] at hn
      omega
    have hPd : P < (10 ^ n - 1) * den := by
      refine Nat.lt_of_mul_lt_mul_right (a := 2 ^ (-((x : Int) - 52)).toNat) ?_
      rw [hrel]
      have e1 : m * 2 ^ ((x : Int) - 52).toNat < 2 ^ (x + 1) * 2 ^ (-((x : Int) - 52)).toNat := by
        rw [← Nat.pow_add, show x + 1 + (-((x : Int) - 52)).toNat = 53 + ((x : Int) - 52).toNat by omega, Nat.pow_add 2 53]
        exact Nat.mul_lt_mul_of_pos_right hm2 (Nat.pow_pos (by decide))
      have e2 : (10 ^ (L + 1) - 1) * 10 ^ p ≤ 10 ^ n - 1 := by
        rw [hnL, Nat.pow_add 10 (L + 1) p, Nat.sub_mul, Nat.one_mul]
        have : 0 < 10 ^ p := Nat.pow_pos (by decide)
        omega
      have hp0 : 0 < 10 ^ p := Nat.pow_pos (by decide)
      calc m * 10 ^ p * 2 ^ ((x : Int) - 52).toNat * den = m * 2 ^ ((x : Int) - 52).toNat * (10 ^ p * den) := by simp only [Nat.mul_assoc, Nat.mul_comm, Nat.mul_left_comm]
        _ < 2 ^ (x + 1) * 2 ^ (-((x : Int) - 52)).toNat * (10 ^ p * den) := Nat.mul_lt_mul_of_pos_right e1 (Nat.mul_pos hp0 hd0)
        _ ≤ (10 ^ (L + 1) - 1) * 2 ^ (-((x : Int) - 52)).toNat * (10 ^ p * den) := Nat.mul_le_mul_right _ (Nat.mul_le_mul_right _ (by omega))
        _ = (10 ^ (L + 1) - 1) * 10 ^ p * (den * 2 ^ (-((x : Int) - 52)).toNat) := by simp only [Nat.mul_assoc, Nat.mul_comm, Nat.mul_left_comm]
        _ ≤ (10 ^ n - 1) * (den * 2 ^ (-((x : Int) - 52)).toNat) := Nat.mul_le_mul_right _ e2
        _ = (10 ^ n - 1) * den * 2 ^ (-((x : Int) - 52)).toNat := (Nat.mul_assoc _ _ _).symm
    have h4 : 4 * P / den < 4 * (10 ^ n - 1) := by
      refine Nat.div_lt_of_lt_mul ?_
      have : 4 * P < 4 * ((10 ^ n - 1) * den) := Nat.mul_lt_mul_of_pos_left hPd (by decide)
      rw [← Nat.mul_assoc] at this
      rw [Nat.mul_comm den]
      exact this
    have h10n : 10 ≤ 10 ^ n := by
      have := Nat.pow_le_pow_right (by decide : 0 < 10) hn1
      simpa using this
    rw [unr_eq]
    split <;> omega
  · rw [hu]
    have h1 : fixU (unr P den) p prec < 9223372036854775808 := by
      unfold fixU
      split
      · exact hub
      · exact divU_lt _ hub
    unfold roundU
    omega
  · rw [hu]
    rcases hpp with rfl | rfl
    · rw [fixU, if_pos rfl]
      exact right_of_half _ _ _ _ _ _ (round_half P den hd0) hd0 hrel
    · rw [fixU, if_neg (by omega), ← unr_div P den hd0]
      refine right_of_half _ _ _ _ _ _ (round_half P (10 * den) (by omega)) (by omega) ?_
      rw [hrel, Nat.pow_succ]
      simp only [Nat.mul_assoc, Nat.mul_comm, Nat.mul_left_comm]
theorem len53 (m : Nat) (hm1 : 4503599627370496 ≤ m) (hm2 : m < 9007199254740992) : Lib.bitLen m = 53 := by
  obtain ⟨h1, h2, h3⟩ := Lib.bitLenAux_bounds 64 m (Nat.lt_trans hm2 (by decide)) (by omega)
  have e : Lib.bitLenAux 64 m = Lib.bitLen m := rfl
  rw [e] at h1 h2 h3
  rcases Nat.lt_trichotomy (Lib.bitLen m) 53 with h | h | h
  · have := Nat.pow_le_pow_right (by decide : 0 < 2) (by omega : Lib.bitLen m ≤ 52)
    omega
  · exact h
  · have := Nat.pow_le_pow_right (by decide : 0 < 2) (by omega : 53 ≤ Lib.bitLen m - 1)
    omega
end Go.Proofs.YtnfddblpenninaaDoor
