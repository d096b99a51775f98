/- Scaling a number by a power of two and of ten: between which bounds; how near a fraction's multiples come to whole numbers. Plain laws, no program in sight. -/
import Derived.Test.YtnfddblpenninaaDoorMgG
namespace Go.Proofs.YtnfddblpenninaaDoor
open Go.RowKit

/-- The product's first 128 bits. -/
def prodW (x hi lo : Nat) : Nat := x * hi - x * lo / 18446744073709551616
theorem uscale_eq (x hi lo s : Nat) (hx : x < 18446744073709551616) (hlo : lo < 18446744073709551616) (hp : 18446744073709551616 ≤ x * hi) :
    uscaleN x hi lo s = prodW x hi lo / (18446744073709551616 * 2 ^ s) ||| (if 1 < prodW x hi lo % (18446744073709551616 * 2 ^ s) then 1 else 0) := by
  have h2b : x * lo / 18446744073709551616 ≤ 18446744073709551614 := by
    have : x * lo ≤ 18446744073709551615 * 18446744073709551615 := Nat.mul_le_mul (by omega) (by omega)
    omega
  unfold uscaleN prodW
  generalize hq : x * lo / 18446744073709551616 = q at *
  generalize hz : x * hi = z at *
  have hS : 0 < 2 ^ s := Nat.pow_pos (by decide)
  generalize 2 ^ s = S at *
  rw [← Nat.div_div_eq_div_mul, Nat.mod_mul]
  by_cases hm : z % 18446744073709551616 < q
  · have e1 : (z - q) / 18446744073709551616 = z / 18446744073709551616 - 1 := by omega
    have e2 : (z - q) % 18446744073709551616 = z % 18446744073709551616 + 18446744073709551616 - q := by omega
    have e3 : (z % 18446744073709551616 + 18446744073709551616 - q) % 18446744073709551616 = z % 18446744073709551616 + 18446744073709551616 - q := by omega
    rw [e1, e2, e3, if_pos hm]
    generalize hh : z / 18446744073709551616 = h at *
    generalize hl : z % 18446744073709551616 = l at *
    have h1 : 1 ≤ h := by omega
    have h2 : 1 < l + 18446744073709551616 - q := by omega
    rw [if_pos h2]
    by_cases hr : h % S ≠ 0
    · rw [if_pos hr]
      have : (h - 1) / S = h / S := by
        have a1 := Nat.div_add_mod h S
        have a2 := Nat.mod_lt h hS
        have : h - 1 = S * (h / S) + (h % S - 1) := by omega
        have h9 : (h % S - 1) / S = 0 := Nat.div_eq_of_lt (by omega)
        rw [this, Nat.mul_add_div hS, h9, Nat.add_zero]
      rw [this, if_pos (by omega)]
    · rw [if_neg hr, if_pos (by omega)]
  · have e1 : (z - q) / 18446744073709551616 = z / 18446744073709551616 := by omega
    have e2 : (z - q) % 18446744073709551616 = z % 18446744073709551616 - q := by omega
    rw [e1, e2, if_neg hm]
    generalize hh : z / 18446744073709551616 = h at *
    generalize hl : z % 18446744073709551616 = l at *
    by_cases hr : h % S ≠ 0
    · rw [if_pos hr, if_pos (by omega)]
    · rw [if_neg hr, show h % S = 0 by omega, Nat.mul_zero, Nat.add_zero]
theorem or_one (q : Nat) : q ||| 1 = q / 2 * 2 + 1 := by
  have h : (q ||| 1) / 2 = q / 2 := by rw [Nat.or_div_two]; simp
  have h2 : (q ||| 1) % 2 = 1 := by
    rw [Nat.or_mod_two_eq_one]
    exact .inr rfl
  omega
theorem unr_le (W T n : Nat) (hT : 0 < T) : 4 * n ≤ (W / T ||| (if 1 < W % T then 1 else 0)) ↔ 4 * n * T ≤ W := by
  rw [← Nat.le_div_iff_mul_le hT]
  split
  · rw [or_one]; omega
  · rw [Nat.or_zero]
theorem unr_lt (W T n : Nat) (hT : 1 < T) : 4 * n < (W / T ||| (if 1 < W % T then 1 else 0)) ↔ 4 * n * T + 2 ≤ W := by
  have h := Nat.div_add_mod W T
  have hm := Nat.mod_lt W (show 0 < T by omega)
  generalize hq : W / T = q at *
  generalize hr : W % T = r at *
  have key : ∀ j, q = 4 * n + j → W = 4 * n * T + T * j + r := fun j hj => by rw [← h, hj, Nat.mul_add, Nat.mul_comm T]
  rcases Nat.lt_or_ge q (4 * n) with hlt | hge
  · have hW : W < 4 * n * T := by
      have : T * (q + 1) ≤ T * (4 * n) := Nat.mul_le_mul_left _ hlt
      rw [Nat.mul_add, Nat.mul_one, Nat.mul_comm T (4 * n)] at this
      omega
    have : ¬ 4 * n < (q ||| (if 1 < r then 1 else 0)) := by
      split
      · rw [or_one]; omega
      · rw [Nat.or_zero]; omega
    exact ⟨fun h => absurd h this, fun h => by omega⟩
  · obtain ⟨j, hj⟩ := Nat.exists_eq_add_of_le hge
    have hW := key j hj
    rcases Nat.eq_zero_or_pos j with rfl | hjp
    · rw [Nat.mul_zero, Nat.add_zero] at hW
      split
      · rw [or_one]; omega
      · rw [Nat.or_zero]; omega
    · have : T * 1 ≤ T * j := Nat.mul_le_mul_left _ hjp
      refine ⟨fun _ => by omega, fun _ => ?_⟩
      split
      · rw [or_one]; omega
      · rw [Nat.or_zero]; omega

/-- The product lies between bounds around the true one. -/
theorem prod_bounds {x hi lo pm Pn Pd y A B T : Nat} (hx : x < 18446744073709551616) (hB : 0 < B) (hPd : 0 < Pd) (hpm : pm + lo = hi * 18446744073709551616)
    (hP1 : Pn ≤ pm * Pd) (hP2 : pm * Pd < Pn + Pd) (hid : x * Pn * B = y * A * (4 * T) * 18446744073709551616 * Pd) :
    4 * T * (y * A) ≤ prodW x hi lo * B ∧ prodW x hi lo * B < 4 * T * (y * A) + 2 * B := by
  have w1 : x * pm ≤ prodW x hi lo * 18446744073709551616 ∧ prodW x hi lo * 18446744073709551616 < x * pm + 18446744073709551616 := by
    have h : x * pm + x * lo = x * hi * 18446744073709551616 := by rw [← Nat.mul_add, hpm, Nat.mul_assoc]
    unfold prodW
    generalize x * pm = a at *
    generalize x * lo = b at *
    generalize x * hi = c at *
    omega
  generalize prodW x hi lo = W at *
  have hK : 0 < 18446744073709551616 * Pd := by omega
  constructor
  · refine Nat.le_of_mul_le_mul_right ?_ hK
    calc 4 * T * (y * A) * (18446744073709551616 * Pd) = y * A * (4 * T) * 18446744073709551616 * Pd := by rw [Nat.mul_comm (4 * T), ← Nat.mul_assoc]
      _ = x * Pn * B := hid.symm
      _ ≤ x * (pm * Pd) * B := Nat.mul_le_mul_right _ (Nat.mul_le_mul_left _ hP1)
      _ = x * pm * Pd * B := by rw [← Nat.mul_assoc x]
      _ ≤ W * 18446744073709551616 * Pd * B := Nat.mul_le_mul_right _ (Nat.mul_le_mul_right _ w1.1)
      _ = W * B * (18446744073709551616 * Pd) := by rw [Nat.mul_assoc W, Nat.mul_assoc W, Nat.mul_assoc W, Nat.mul_comm B]
  · refine Nat.lt_of_mul_lt_mul_right (a := 18446744073709551616 * Pd) ?_
    have s1 : x * (pm * Pd) ≤ x * Pn + x * Pd := by rw [← Nat.mul_add]; exact Nat.mul_le_mul_left _ (Nat.le_of_lt hP2)
    have s2 : x * Pd ≤ 18446744073709551616 * Pd := Nat.mul_le_mul_right _ (Nat.le_of_lt hx)
    have s3 : W * 18446744073709551616 * Pd < (x * pm + 18446744073709551616) * Pd := Nat.mul_lt_mul_of_pos_right w1.2 hPd
    have s4 : W * 18446744073709551616 * Pd < x * Pn + 2 * (18446744073709551616 * Pd) := by
      rw [Nat.add_mul, Nat.mul_assoc x] at s3
      omega
    calc W * B * (18446744073709551616 * Pd) = W * 18446744073709551616 * Pd * B := by rw [Nat.mul_assoc W, Nat.mul_assoc W, Nat.mul_assoc W, Nat.mul_comm B]
      _ < (x * Pn + 2 * (18446744073709551616 * Pd)) * B := Nat.mul_lt_mul_of_pos_right s4 hB
      _ = x * Pn * B + 2 * B * (18446744073709551616 * Pd) := by rw [Nat.add_mul]; simp only [Nat.mul_assoc, Nat.mul_comm, Nat.mul_left_comm]
      _ = (4 * T * (y * A) + 2 * B) * (18446744073709551616 * Pd) := by rw [hid, Nat.add_mul, Nat.mul_comm (4 * T), ← Nat.mul_assoc (y * A * (4 * T))]

/-- A fraction's multiples and whole numbers: equal, or not nearer than its neighbours bring them. -/
theorem farey {A B a b c d X y n M : Nat} (hdet : b * c = a * d + 1) (hX : X < b + d) (hy : y ≤ X) (hab : a * B ≤ b * A) (_hcd : d * A < c * B)
    (e1 : b * A = a * B ∨ B ≤ (b * A - a * B) * M) (e2 : B ≤ (c * B - d * A) * M) :
    (y * A < n * B → B ≤ (n * B - y * A) * M) ∧ (n * B < y * A → B ≤ (y * A - n * B) * M) := by
  obtain ⟨e, he⟩ : ∃ e, b * A = a * B + e := Nat.exists_eq_add_of_le hab
  obtain ⟨f, hf⟩ : ∃ f, c * B = d * A + f := Nat.exists_eq_add_of_le (Nat.le_of_lt _hcd)
  have e1' : e = 0 ∨ B ≤ e * M := by
    rcases e1 with h | h
    · exact .inl (by omega)
    · exact .inr (by rw [show b * A - a * B = e by omega] at h; exact h)
  have e2' : B ≤ f * M := by rw [show c * B - d * A = f by omega] at e2; exact e2
  -- in whole numbers with signs
  have hy1 : (y : Int) = (y * c - n * d) * b + (n * b - y * a) * d := by
    have : (b : Int) * c = a * d + 1 := by exact_mod_cast hdet
    have h2 : ((y : Int) * c - n * d) * b + (n * b - y * a) * d = y * (b * c - a * d) := by
      simp only [Int.sub_mul, Int.mul_sub, Int.mul_assoc, Int.mul_comm, Int.mul_left_comm]
      omega
    rw [h2, this]
    rw [show (a : Int) * d + 1 - a * d = 1 by omega, Int.mul_one]
  have hn1 : (n : Int) = (y * c - n * d) * a + (n * b - y * a) * c := by
    have : (b : Int) * c = a * d + 1 := by exact_mod_cast hdet
    have h2 : ((y : Int) * c - n * d) * a + (n * b - y * a) * c = n * (b * c - a * d) := by
      simp only [Int.sub_mul, Int.mul_sub, Int.mul_assoc, Int.mul_comm, Int.mul_left_comm]
      omega
    rw [h2, this]
    rw [show (a : Int) * d + 1 - a * d = 1 by omega, Int.mul_one]
  generalize hs : (y : Int) * c - n * d = s at *
  generalize ht : (n : Int) * b - y * a = t at *
  have heI : (b : Int) * A = a * B + e := by exact_mod_cast he
  have hfI : (c : Int) * B = d * A + f := by exact_mod_cast hf
  have hyA : (y : Int) * A = s * (a * B) + s * e + t * (d * A) := by
    conv => lhs; rw [hy1]
    rw [Int.add_mul, Int.mul_assoc, Int.mul_assoc, heI, Int.mul_add]
  have hnB : (n : Int) * B = s * (a * B) + (t * (d * A) + t * f) := by
    conv => lhs; rw [hn1]
    rw [Int.add_mul, Int.mul_assoc, Int.mul_assoc, hfI, Int.mul_add t]
  have hdiff : (y : Int) * A - n * B = s * e - t * f := by omega
  have castA : ((y * A : Nat) : Int) = (y : Int) * A := by simp
  have castB : ((n * B : Nat) : Int) = (n : Int) * B := by simp
  rw [← castA, ← castB] at hdiff
  generalize y * A = P at *
  generalize n * B = Q at *
  have big : ∀ j u v g : Nat, g ≤ j → 1 ≤ j → B ≤ g * M → B ≤ j * M := fun j u v g h1 _ h3 => Nat.le_trans h3 (Nat.mul_le_mul_right _ h1)
  have mulNN : ∀ u v : Int, 0 ≤ u → 0 ≤ v → 0 ≤ u * v := fun u v h1 h2 => Int.mul_nonneg h1 h2
  have mulGE : ∀ (u : Int) (v : Nat), 1 ≤ u → (v : Int) ≤ u * v := fun u v h => by
    have := Int.mul_le_mul_of_nonneg_right h (Int.natCast_nonneg v)
    rw [Int.one_mul] at this
    exact this
  have neg1 : ∀ (u : Int) (v : Nat), u * v = -((-u) * v) := fun u v => by rw [Int.neg_mul, Int.neg_neg]
  rcases Int.lt_or_le 0 s with hs1 | hs1
  · rcases Int.lt_or_le 0 t with ht1 | ht1
    · exfalso
      have g1 := mulGE s b (by omega)
      have g2 := mulGE t d (by omega)
      omega
    · -- the difference is not below 0
      have n1 := mulGE s e (by omega)
      have n2 := mulNN (-t) f (by omega) (by omega)
      have n3 := neg1 t f
      refine ⟨fun h => by omega, fun h => ?_⟩
      rcases e1' with h0 | h0
      · subst h0
        have ht2 : 1 ≤ -t := by
          rcases Int.lt_or_le t 0 with h | h
          · omega
          · have : t = 0 := by omega
            subst this
            simp at hdiff
            omega
        have n4 := mulGE (-t) f ht2
        exact big (P - Q) 0 0 f (by simp at hdiff n1; omega) (by omega) e2'
      · exact big (P - Q) 0 0 e (by omega) (by omega) h0
  · rcases Int.lt_or_le 0 t with ht1 | ht1
    · have n1 := mulGE t f (by omega)
      have n2 := mulNN (-s) e (by omega) (by omega)
      have n3 := neg1 s e
      exact ⟨fun h => big (Q - P) 0 0 f (by omega) (by omega) e2', fun h => by omega⟩
    · have n1 := mulNN (-s) b (by omega) (by omega)
      have n2 := mulNN (-t) d (by omega) (by omega)
      have n3 := mulNN (-s) a (by omega) (by omega)
      have n4 := mulNN (-t) c (by omega) (by omega)
      have m1 := neg1 s b
      have m2 := neg1 t d
      have m3 := neg1 s a
      have m4 := neg1 t c
      have hy0 : y = 0 := by omega
      have hn0 : n = 0 := by omega
      subst hy0 hn0
      simp at castA castB
      exact ⟨fun h => by omega, fun h => by omega⟩
end Go.Proofs.YtnfddblpenninaaDoor
