/- Numbers compared: the law. -/
import Derived.Test.YtnfddblpenninaaDoorFixC
namespace Go.Proofs.YtnfddblpenninaaDoor
open Go.RowKit

theorem wval_lt : ∀ (l : List Nat), (∀ x ∈ l, x < 4294967296) → wval l < 4294967296 ^ l.length
  | [], _ => by simp [wval]
  | x :: r, h => by
    have h1 := h x (by simp)
    have h2 := wval_lt r (fun y hy => h y (by simp [hy]))
    simp only [wval, List.length_cons, Nat.pow_succ]
    omega
theorem take_words {xs : List Nat} (h : ∀ x ∈ xs, x < 4294967296) (k : Nat) : ∀ x ∈ xs.take k, x < 4294967296 := fun x hx => h x (List.mem_of_mem_take hx)
theorem wval_take_lt {xs : List Nat} (h : ∀ x ∈ xs, x < 4294967296) (k : Nat) (hk : k ≤ xs.length) : wval (xs.take k) < 4294967296 ^ k := by
  have := wval_lt (xs.take k) (take_words h k)
  rwa [List.length_take, Nat.min_eq_left hk] at this
/-- The number's greatest word is not 0 (or there is none). -/
def Trim (xs : List Nat) (k : Nat) : Prop := k ≤ xs.length ∧ (k = 0 ∨ ∃ h : k - 1 < xs.length, xs[k - 1] ≠ 0) ∧ wval (xs.take k) = wval xs
theorem Trim.ge {xs : List Nat} {k : Nat} (h : Trim xs (k + 1)) : 4294967296 ^ k ≤ wval xs := by
  obtain ⟨h1, h2, h3⟩ := h
  rcases h2 with h2 | ⟨h2, h4⟩
  · omega
  · have h5 : xs[k] ≠ 0 := h4
    rw [← h3, wval_take xs k (by omega)]
    have := Nat.le_mul_of_pos_right (4294967296 ^ k) (Nat.pos_of_ne_zero h5)
    omega
theorem trim_lt {xs ys : List Nat} {k m : Nat} (hx : ∀ x ∈ xs, x < 4294967296) (h : Trim xs k) (h' : Trim ys m) (hk : k < m) : wval xs < wval ys := by
  obtain ⟨j, rfl⟩ : ∃ j, m = j + 1 := ⟨m - 1, by omega⟩
  have h1 := h'.ge
  have h2 := wval_take_lt hx k h.1
  rw [h.2.2] at h2
  exact Nat.lt_of_lt_of_le h2 (Nat.le_trans (Nat.pow_le_pow_right (by decide) (by omega)) h1)
/-- Words of two numbers from i on are the same. -/
def Same (xs ys : List Nat) (k i : Nat) : Prop := ∀ j, i ≤ j → j < k → xs[j]? = ys[j]?
theorem lt_at {xs ys : List Nat} {k : Nat} (hx : ∀ x ∈ xs, x < 4294967296) (hk : k ≤ xs.length) (hk' : k ≤ ys.length) (i : Nat) (hi : i < k) (hs : Same xs ys k (i + 1)) (hlt : xs[i] < ys[i]) : wval (xs.take k) < wval (ys.take k) := by
  have key : ∀ d, i + 1 + d ≤ k → wval (xs.take (i + 1 + d)) < wval (ys.take (i + 1 + d)) := by
    intro d
    induction d with
    | zero =>
      intro _
      show wval (xs.take (i + 1)) < wval (ys.take (i + 1))
      rw [wval_take xs i (by omega), wval_take ys i (by omega)]
      have h1 := wval_take_lt hx i (by omega)
      have h2 : 4294967296 ^ i * (xs[i] + 1) ≤ 4294967296 ^ i * ys[i] := Nat.mul_le_mul_left _ hlt
      rw [Nat.mul_add, Nat.mul_one] at h2
      omega
    | succ d ih =>
      intro hd
      have h1 := ih (by omega)
      have h2 : xs[i + 1 + d]'(by omega) = ys[i + 1 + d]'(by omega) := by
        have := hs (i + 1 + d) (by omega) (by omega)
        rw [List.getElem?_eq_getElem (by omega), List.getElem?_eq_getElem (by omega)] at this
        exact Option.some.inj this
      rw [show i + 1 + (d + 1) = i + 1 + d + 1 by omega, wval_take xs (i + 1 + d) (by omega), wval_take ys (i + 1 + d) (by omega), h2]
      omega
  have := key (k - (i + 1)) (by omega)
  rwa [show i + 1 + (k - (i + 1)) = k by omega] at this
theorem same_all {xs ys : List Nat} {k : Nat} (hs : Same xs ys k 0) : xs.take k = ys.take k := by
  apply List.ext_getElem?
  intro j
  rw [List.getElem?_take, List.getElem?_take]
  split
  · exact hs j (Nat.zero_le _) (by assumption)
  · rfl
theorem Same.down {xs ys : List Nat} {k i : Nat} (hs : Same xs ys k (i + 1)) (h1 : i < xs.length) (h2 : i < ys.length) (he : xs[i] = ys[i]) : Same xs ys k i := by
  intro j hj hk
  rcases Nat.eq_or_lt_of_le hj with rfl | hj
  · rw [List.getElem?_eq_getElem h1, List.getElem?_eq_getElem h2, he]
  · exact hs j hj hk
/-- How two numbers stand. -/
def cmpN (a b : Nat) : Int := if a < b then -1 else if a = b then 0 else 1
theorem cmp_lt {a b : Nat} (h : a < b) : cmpN a b = -1 := if_pos h
theorem cmp_gt {a b : Nat} (h : b < a) : cmpN a b = 1 := by
  unfold cmpN
  rw [if_neg (by omega), if_neg (by omega)]
theorem cmp_eq {a b : Nat} (h : a = b) : cmpN a b = 0 := by
  unfold cmpN
  rw [if_neg (by omega), if_pos h]
/-- What a loop that strips zeros knows. -/
def Strip (xs : List Nat) (k : Nat) : Prop := k ≤ xs.length ∧ wval (xs.take k) = wval xs
theorem Strip.start (xs : List Nat) : Strip xs xs.length := ⟨Nat.le_refl _, by rw [List.take_length]⟩
theorem Strip.down {xs : List Nat} {k : Nat} (h : Strip xs (k + 1)) (hk : k < xs.length) (h0 : xs[k] = 0) : Strip xs k := ⟨by omega, by rw [← h.2, wval_take xs k hk, h0]; simp⟩
theorem Strip.zero {xs : List Nat} (h : Strip xs 0) : Trim xs 0 := ⟨h.1, .inl rfl, h.2⟩
theorem Strip.stop {xs : List Nat} {k : Nat} (h : Strip xs (k + 1)) (hk : k < xs.length) (h0 : xs[k] ≠ 0) : Trim xs (k + 1) := ⟨h.1, .inr ⟨hk, h0⟩, h.2⟩
/-- Whether a zero is to be stripped. -/
def more (xs : List Nat) (k : Nat) : Bool := decide (0 < k) && (xs[k - 1]? == some 0)
theorem more_yes {xs : List Nat} {k : Nat} (h : more xs k = true) (hs : Strip xs k) : ∃ j, k = j + 1 ∧ Strip xs j := by
  simp only [more, Bool.and_eq_true, decide_eq_true_eq, beq_iff_eq] at h
  obtain ⟨j, rfl⟩ : ∃ j, k = j + 1 := ⟨k - 1, by omega⟩
  have h2 : xs[j]? = some 0 := h.2
  obtain ⟨hj, h0⟩ := List.getElem?_eq_some_iff.1 h2
  exact ⟨j, rfl, hs.down hj h0⟩
theorem more_no {xs : List Nat} {k : Nat} (h : more xs k = false) (hs : Strip xs k) : Trim xs k := by
  cases k with
  | zero => exact hs.zero
  | succ k =>
    have hk : k < xs.length := by have := hs.1; omega
    refine hs.stop hk (fun h0 => ?_)
    simp [more, List.getElem?_eq_getElem hk, h0] at h
end Go.Proofs.YtnfddblpenninaaDoor
