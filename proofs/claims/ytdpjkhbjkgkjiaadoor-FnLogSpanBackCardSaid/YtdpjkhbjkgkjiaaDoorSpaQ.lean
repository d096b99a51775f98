/- The text of a duration as parts: no program in sight. -/
import Derived.Test.YtdpjkhbjkgkjiaaDoorSpaD
namespace Go.Proofs.YtdpjkhbjkgkjiaaDoor
open Go.RowKit

def secP (u : Nat) : Part := ⟨digs (u / 1000000000 % 60), fr u 9, 5⟩
def minP (u : Nat) : Part := ⟨digs (u / 1000000000 / 60 % 60), [], 4⟩
def hourP (u : Nat) : Part := ⟨digs (u / 1000000000 / 60 / 60), [], 3⟩
def partsOf (u : Nat) : List Part :=
  if u < 1000 then [⟨digs u, [], 0⟩]
  else if u < 1000000 then [⟨digs (u / 1000), fr u 3, 1⟩]
  else if u < 1000000000 then [⟨digs (u / 1000000), fr u 6, 2⟩]
  else if u / 1000000000 / 60 = 0 then [secP u]
  else if u / 1000000000 / 60 / 60 = 0 then [minP u, secP u]
  else [hourP u, minP u, secP u]

theorem dot_nil : dot [] = [] := rfl
theorem numOf_nil : numOf [] = 0 := rfl
theorem parts_text {u : Nat} (h : 0 < u) : textP (partsOf u) = body u := by
  unfold partsOf
  split
  · rename_i h1
    rw [body_nano h h1]
    simp [textP, Part.text, dot_nil, unitName]
  split
  · rename_i h1 h2
    rw [body_micro (by omega) h2]
    simp [textP, Part.text, unitName]
  split
  · rename_i h1 h2 h3
    rw [body_milli (by omega) h3]
    simp [textP, Part.text, unitName]
  split
  · rename_i h1 h2 h3 h4
    rw [body_secs (by omega) h4]
    simp [textP, Part.text, secP, sec1, unitName]
  split
  · rename_i h1 h2 h3 h4 h5
    rw [body_mins (by omega) h4 h5]
    simp [textP, Part.text, secP, minP, sec2, sec1, unitName, dot_nil]
  · rename_i h1 h2 h3 h4 h5
    rw [body_hours (by omega) h5]
    simp [textP, Part.text, secP, minP, hourP, sec2, sec1, unitName, dot_nil]

theorem digs_ok (v k : Nat) (hv : v < 10000000) (hk : k < 6) : (⟨digs v, [], k⟩ : Part).Ok :=
  ⟨digs_dig v, digs_pos v, digs_len (k := 7) (by decide) hv, by simp [AllDig], by simp, hk, by simp [Nat.mod_one]⟩
theorem pow_mod {i n : Nat} (h : n ≤ i) : 10 ^ i % 10 ^ n = 0 := by
  rw [show 10 ^ i = 10 ^ n * 10 ^ (i - n) by rw [← Nat.pow_add]; congr 1; omega]
  exact Nat.mul_mod_right _ _
theorem fr_ok (v u i k : Nat) (hv : v < 10000000) (hi : i ≤ 9) (hk : k < 6) (hs : unitSize k = 10 ^ i) : (⟨digs v, fr u i, k⟩ : Part).Ok :=
  ⟨digs_dig v, digs_pos v, digs_len (k := 7) (by decide) hv, fr_dig u i, Nat.le_trans (fr_len u i) hi, hk, by rw [hs]; exact pow_mod (fr_len u i)⟩
theorem digs_value (v k : Nat) : (⟨digs v, [], k⟩ : Part).value = v * unitSize k := by
  simp only [Part.value, numOf_digs, numOf_nil, Nat.zero_mul, Nat.add_zero]
theorem fr_value (v u i k : Nat) (hs : unitSize k = 10 ^ i) : (⟨digs v, fr u i, k⟩ : Part).value = v * unitSize k + u % 10 ^ i := by
  simp only [Part.value, numOf_digs, hs]
  rw [Nat.pow_div (fr_len u i) (by decide), numOf_fr]

theorem parts_ok {u : Nat} (hu : u ≤ 9223372036854775808) : OkP 4611686018427387904 (partsOf u) := by
  have hsec : (secP u).Ok := fr_ok _ _ 9 5 (by omega) (by decide) (by decide) rfl
  have hmin : (minP u).Ok := digs_ok _ 4 (by omega) (by decide)
  have hhour : (hourP u).Ok := digs_ok _ 3 (by omega) (by decide)
  unfold partsOf
  split
  · exact ⟨digs_ok _ 0 (by omega) (by decide), (by decide : unitSize 0 < _), trivial⟩
  split
  · exact ⟨fr_ok _ _ 3 1 (by omega) (by decide) (by decide) rfl, (by decide : unitSize 1 < _), trivial⟩
  split
  · exact ⟨fr_ok _ _ 6 2 (by omega) (by decide) (by decide) rfl, (by decide : unitSize 2 < _), trivial⟩
  split
  · exact ⟨hsec, (by decide : unitSize 5 < _), trivial⟩
  split
  · exact ⟨hmin, (by decide : unitSize 4 < _), hsec, (by decide : unitSize 5 < unitSize 4), trivial⟩
  · exact ⟨hhour, (by decide : unitSize 3 < _), hmin, (by decide : unitSize 4 < unitSize 3), hsec, (by decide : unitSize 5 < unitSize 4), trivial⟩

theorem parts_value (u : Nat) : valueP (partsOf u) = u := by
  have hsec : (secP u).value = u / 1000000000 % 60 * 1000000000 + u % 1000000000 := fr_value _ _ 9 5 rfl
  have hmin : (minP u).value = u / 1000000000 / 60 % 60 * 60000000000 := digs_value _ 4
  have hhour : (hourP u).value = u / 1000000000 / 60 / 60 * 3600000000000 := digs_value _ 3
  unfold partsOf
  split
  · have := digs_value u 0
    simp only [valueP, this, unitSize]
    omega
  split
  · have h := fr_value (u / 1000) u 3 1 rfl
    simp only [valueP, h, unitSize]
    omega
  split
  · have h := fr_value (u / 1000000) u 6 2 rfl
    simp only [valueP, h, unitSize]
    omega
  split
  · simp only [valueP, hsec]
    omega
  split
  · simp only [valueP, hsec, hmin]
    omega
  · simp only [valueP, hsec, hmin, hhour]
    omega

theorem sec1_ne {u : Nat} (h : u / 1000000000 % 60 ≠ 0) : sec1 u ≠ [48, 115] := by
  intro hc
  have h1 : numOf (digs (u / 1000000000 % 60)) = u / 1000000000 % 60 := numOf_digs _
  have h2 := digs_pos (u / 1000000000 % 60)
  unfold sec1 at hc
  cases hd : digs (u / 1000000000 % 60) with
  | nil => rw [hd] at h2; simp at h2
  | cons a t =>
    rw [hd, List.cons_append] at hc
    have h3 := (List.cons.inj hc).1
    have h4 := congrArg List.length (List.cons.inj hc).2
    simp at h4
    have h5 : t = [] := List.eq_nil_of_length_eq_zero (by omega)
    rw [hd, h5, h3] at h1
    simp [numOf] at h1
    omega
theorem body_ne {u : Nat} (h : 0 < u) : body u ≠ [48, 115] := by
  have hl : ∀ {v : Nat} {l : List UInt8}, 2 ≤ l.length → digs v ++ l ≠ [48, 115] := by
    intro v l h2 hc
    have := congrArg List.length hc
    have := digs_pos v
    simp at *
    omega
  by_cases h1 : u < 1000
  · rw [body_nano h h1]; exact hl (by simp)
  by_cases h2 : u < 1000000
  · rw [body_micro (by omega) h2]; exact hl (by simp)
  by_cases h3 : u < 1000000000
  · rw [body_milli (by omega) h3]; exact hl (by simp)
  by_cases h4 : u / 1000000000 / 60 = 0
  · rw [body_secs (by omega) h4]; exact sec1_ne (by omega)
  have h7 := digs_pos (u / 1000000000 % 60)
  by_cases h5 : u / 1000000000 / 60 / 60 = 0
  · rw [body_mins (by omega) h4 h5]; exact hl (by simp [sec1]; omega)
  · rw [body_hours (by omega) h5]; exact hl (by simp [sec2, sec1]; omega)

theorem body_head {u : Nat} (h : 0 < u) (hu : u ≤ 9223372036854775808) : ∃ c l', body u = c :: l' ∧ 48 ≤ c.toNat ∧ c.toNat ≤ 57 := by
  rw [← parts_text h]
  have hok := parts_ok hu
  have hne : partsOf u ≠ [] := by unfold partsOf; repeat' split <;> try simp
  cases hp : partsOf u with
  | nil => exact absurd hp hne
  | cons p ps =>
    rw [hp] at hok
    obtain ⟨ds, f, k⟩ := p
    have h1 := hok.1.ds
    have h2 := hok.1.ds0
    cases ds with
    | nil => simp at h2
    | cons a t => exact ⟨a, _, rfl, h1 a (by simp)⟩
end Go.Proofs.YtdpjkhbjkgkjiaaDoor
