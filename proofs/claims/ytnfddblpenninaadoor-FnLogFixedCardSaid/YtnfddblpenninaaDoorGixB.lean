/- What a float's text without an exponent is as a number. (Plain law.) -/
import Derived.Test.YtnfddblpenninaaDoorGixA
namespace Go.Proofs.YtnfddblpenninaaDoor
open Go.RowKit

/-- A text of digits, prec of them behind the point, that is the number D. -/
structure Good (l : List UInt8) (prec D : Nat) : Prop where
  plain : Plain l
  len : l.length ≤ 400
  cnt : 0 < cntD l
  beh : behindD l l.length = prec
  dot : prec = 0 → ∀ c ∈ l, c.toNat ≠ 46
  num : numD l = D
theorem dig_ne {c : UInt8} (h : 48 ≤ c.toNat ∧ c.toNat ≤ 57) : c.toNat ≠ 46 := by omega
theorem foldD {l : List UInt8} (h : IsDig l) : ∀ a, l.foldl stepD a = l.foldl stepL a := by
  induction l with
  | nil => intro a; rfl
  | cons c r ih =>
    intro a
    have h1 := h c (List.mem_cons_self ..)
    have e : stepD a c = stepL a c := by
      unfold stepD stepL
      rw [if_neg (by omega)]
    rw [List.foldl_cons, List.foldl_cons, e]
    exact ih (fun x hx => h x (List.mem_cons_of_mem _ hx)) _
theorem numD_plain {a b : List UInt8} (ha : IsDig a) (hb : IsDig b) : numD (a ++ 46 :: b) = numL (a ++ b) := by
  unfold numD
  rw [List.foldl_append, List.foldl_cons, show stepD (a.foldl stepD 0) 46 = a.foldl stepD 0 from if_pos rfl, foldD ha, foldD hb, numL, List.foldl_append]
theorem numD_dig {a : List UInt8} (ha : IsDig a) : numD a = numL a := foldD ha 0
theorem behind_skip (l : List UInt8) (k : Nat) : ∀ m, k ≤ m → m ≤ l.length → (∀ i (h : i < l.length), k ≤ i → i < m → l[i].toNat ≠ 46) → behindD l m = behindD l k
  | 0, h, _, _ => by rw [show k = 0 by omega]
  | m + 1, h, hm, hn => by
    rcases Nat.eq_or_lt_of_le h with rfl | h
    · rfl
    · rw [behindD, dif_pos (by omega), if_neg (hn m (by omega) (by omega) (by omega))]
      exact behind_skip l k m (by omega) (by omega) fun i h1 h2 h3 => hn i h1 h2 (by omega)
theorem behind_plain {a b : List UInt8} (hb : IsDig b) : behindD (a ++ 46 :: b) (a ++ 46 :: b).length = b.length := by
  have hl : (a ++ 46 :: b).length = a.length + 1 + b.length := by simp; omega
  rw [behind_skip (a ++ 46 :: b) (a.length + 1) _ (by omega) (Nat.le_refl _) (fun i h h1 _ => by
    rw [List.getElem_append_right (by omega), List.getElem_cons, dif_neg (by omega)]
    exact dig_ne (hb _ (List.getElem_mem _)))]
  rw [behindD, dif_pos (by omega), if_pos (by rw [List.getElem_append_right (Nat.le_refl _)]; simp)]
  omega
theorem behind_dig {a : List UInt8} (ha : IsDig a) : behindD a a.length = 0 := by
  rw [behind_skip a 0 _ (Nat.zero_le _) (Nat.le_refl _) (fun i h _ _ => dig_ne (ha _ (List.getElem_mem _)))]
  rfl
theorem cnt_mono (l : List UInt8) : ∀ a, a ≤ l.foldl stepC a := by
  induction l with
  | nil => intro a; exact Nat.le_refl _
  | cons c r ih =>
    intro a
    refine Nat.le_trans ?_ (ih (stepC a c))
    unfold stepC
    split <;> omega
theorem cnt_pos {c : UInt8} {r : List UInt8} (h : 48 ≤ c.toNat ∧ c.toNat ≤ 57) : 0 < cntD (c :: r) := by
  unfold cntD
  rw [List.foldl_cons, show stepC 0 c = 1 from if_neg (dig_ne h)]
  exact cnt_mono r 1
theorem good_of {I X : List UInt8} {prec D : Nat} (hI : IsDig I) (hX : IsDig X) (h0 : 0 < I.length) (hXl : X.length = prec) (hlen : I.length + prec ≤ 398) (hN : numL (I ++ X) = D) : Good (if 0 < prec then I ++ 46 :: X else I) prec D := by
  obtain ⟨c, r, rfl⟩ : ∃ c r, I = c :: r := by
    cases I with
    | nil => simp at h0
    | cons c r => exact ⟨c, r, rfl⟩
  have hc := hI c (List.mem_cons_self ..)
  split
  · refine ⟨fun x hx => ?_, by simp at hlen ⊢; omega, cnt_pos hc, by rw [behind_plain hX, hXl], fun h => by omega, by rw [numD_plain hI hX, hN]⟩
    rcases List.mem_append.1 hx with h | h
    · exact .inr (hI x h)
    · rcases List.mem_cons.1 h with rfl | h
      · exact .inl rfl
      · exact .inr (hX x h)
  · have hp0 : prec = 0 := by omega
    have hX0 : X = [] := List.length_eq_zero_iff.1 (by omega)
    rw [hX0, List.append_nil] at hN
    refine ⟨fun x hx => .inr (hI x hx), by omega, cnt_pos hc, by rw [behind_dig hI, hp0], fun _ x hx => dig_ne (hI x hx), by rw [numD_dig hI, hN]⟩
/-- The digits behind the point. -/
def fracX (ds : List UInt8) (dp : Int) (prec : Nat) : List UInt8 := List.replicate (leadF dp prec) 48 ++ ((ds.drop dp.toNat).take (prec - leadF dp prec) ++ List.replicate (prec - leadF dp prec - (ds.length - dp.toNat)) 48)
theorem text_eq (neg : Bool) (ds : List UInt8) (dp : Int) (prec : Nat) : textF neg ds dp prec = signed neg (if 0 < prec then intF ds dp ++ 46 :: fracX ds dp prec else intF ds dp) := by
  unfold textF sgnF signed fracT fracX
  by_cases hp : 0 < prec <;> cases neg <;> simp [hp]
theorem fracX_len (ds : List UInt8) (dp : Int) (prec : Nat) : (fracX ds dp prec).length = prec := by
  unfold fracX leadF
  rw [List.length_append, List.length_append, List.length_replicate, List.length_replicate, List.length_take, List.length_drop]
  omega
theorem numL_pad (l : List UInt8) (n : Nat) : numL (l ++ List.replicate n 48) = numL l * 10 ^ n := by rw [numL_append, numL_zeros, List.length_replicate, Nat.add_zero]
theorem numL_lead (n : Nat) (l : List UInt8) : numL (List.replicate n 48 ++ l) = numL l := by rw [numL_append, numL_zeros, Nat.zero_mul, Nat.zero_add]
theorem text_num (ds : List UInt8) (dp : Int) (prec : Nat) (hn : (ds.length : Int) ≤ dp + prec) : numL (intF ds dp ++ fracX ds dp prec) = numL ds * 10 ^ (dp + prec - ds.length).toNat := by
  unfold intF
  by_cases hd : 0 < dp
  · rw [if_pos hd]
    obtain ⟨d, rfl⟩ := Int.eq_ofNat_of_zero_le (Int.le_of_lt hd)
    have hz : leadF (d : Int) prec = 0 := by unfold leadF; omega
    unfold fracX
    rw [hz, Int.toNat_natCast, List.replicate_zero, List.nil_append, Nat.sub_zero]
    rcases Nat.lt_or_ge d ds.length with h | h
    · rw [show d - ds.length = 0 by omega, List.replicate_zero, List.append_nil, List.take_of_length_le (l := ds.drop d) (by rw [List.length_drop]; omega), ← List.append_assoc, List.take_append_drop, numL_pad]
      congr 2
      omega
    · rw [List.take_of_length_le (by omega), List.drop_of_length_le (by omega), List.take_nil, List.nil_append, List.append_assoc, List.replicate_append_replicate, numL_pad]
      congr 2
      omega
  · rw [if_neg hd]
    unfold fracX
    have hd0 : dp.toNat = 0 := by omega
    rw [hd0, List.drop_zero, Nat.sub_zero, show ([48] : List UInt8) = List.replicate 1 48 from rfl, ← List.append_assoc, List.replicate_append_replicate, numL_lead]
    rcases Nat.eq_zero_or_pos ds.length with h | h
    · obtain rfl := List.length_eq_zero_iff.1 h
      rw [List.take_nil, List.nil_append, numL_zeros]
      simp [numL]
    · have hz : leadF dp prec = (-dp).toNat := by unfold leadF; omega
      rw [hz, List.take_of_length_le (by omega), numL_pad]
      congr 2
      omega
/-- The text of some digits. -/
theorem text_good (neg : Bool) (ds : List UInt8) (dp : Int) (prec : Nat) (hds : IsDig ds) (hn : (ds.length : Int) ≤ dp + prec) (hd : dp ≤ 300) (hp : prec ≤ 50) :
    ∃ l, textF neg ds dp prec = signed neg l ∧ Good l prec (numL ds * 10 ^ (dp + prec - ds.length).toNat) := by
  refine ⟨_, text_eq neg ds dp prec, good_of ?_ ?_ ?_ (fracX_len ds dp prec) ?_ (text_num ds dp prec hn)⟩
  · unfold intF
    split
    · exact isDig_append (isDig_take hds _) (isDig_zeros _)
    · exact isDig_zeros 1
  · exact isDig_append (isDig_zeros _) (isDig_append (isDig_take (isDig_drop hds _) _) (isDig_zeros _))
  · unfold intF
    split
    · rw [List.length_append, List.length_take, List.length_replicate]
      omega
    · simp
  · have : (intF ds dp).length ≤ 300 := by
      unfold intF
      split
      · rw [List.length_append, List.length_take, List.length_replicate]
        omega
      · simp
    omega
end Go.Proofs.YtnfddblpenninaaDoor
