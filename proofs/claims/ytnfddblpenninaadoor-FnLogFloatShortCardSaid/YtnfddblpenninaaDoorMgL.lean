/- The scaled ends of a float's interval, compared with whole numbers. Plain laws, no program in sight. -/
import Derived.Test.YtnfddblpenninaaDoorShoB
namespace Go.Proofs.YtnfddblpenninaaDoor
open Go.RowKit

theorem two_exps (a b c d s f : Nat) (h : a + b + c = d + s + f + 130) : 2 ^ a * 2 ^ b * 2 ^ c = 2 ^ d * (4 * (18446744073709551616 * 2 ^ s)) * 18446744073709551616 * 2 ^ f := by
  have e1 : (18446744073709551616 : Nat) = 2 ^ 64 := by decide
  have e2 : (4 : Nat) = 2 ^ 2 := by decide
  rw [e1, e2, ← Nat.pow_add, ← Nat.pow_add, ← Nat.pow_add, ← Nat.pow_add, ← Nat.pow_add, ← Nat.pow_add, ← Nat.pow_add, h]
  congr 1
  omega
theorem scale_id (y r s : Nat) (e p j l : Int) (hj : j = e + r) (hs : (s : Int) = -(e + l + 3)) :
    y * 2 ^ r * (10 ^ p.toNat * 2 ^ (127 - l).toNat) * denB j p = y * numA j p * (4 * (18446744073709551616 * 2 ^ s)) * 18446744073709551616 * (10 ^ (-p).toNat * 2 ^ (l - 127).toNat) := by
  have h := two_exps r (127 - l).toNat (-j).toNat j.toNat s (l - 127).toNat (by omega)
  unfold denB numA
  calc y * 2 ^ r * (10 ^ p.toNat * 2 ^ (127 - l).toNat) * (2 ^ (-j).toNat * 10 ^ (-p).toNat)
      = y * (10 ^ p.toNat * 10 ^ (-p).toNat) * (2 ^ r * 2 ^ (127 - l).toNat * 2 ^ (-j).toNat) := by simp only [Nat.mul_assoc, Nat.mul_comm, Nat.mul_left_comm]
    _ = y * (10 ^ p.toNat * 10 ^ (-p).toNat) * (2 ^ j.toNat * (4 * (18446744073709551616 * 2 ^ s)) * 18446744073709551616 * 2 ^ (l - 127).toNat) := by rw [h]
    _ = _ := by
      generalize 2 ^ s = S
      generalize (18446744073709551616 : Nat) = K
      generalize 2 ^ j.toNat = J
      generalize 2 ^ (l - 127).toNat = L
      simp only [Nat.mul_assoc, Nat.mul_comm, Nat.mul_left_comm]
theorem numA_pos (j p : Int) : 0 < numA j p := Nat.mul_pos (Nat.pow_pos (by decide)) (Nat.pow_pos (by decide))
theorem denB_pos (j p : Int) : 0 < denB j p := Nat.mul_pos (Nat.pow_pos (by decide)) (Nat.pow_pos (by decide))
/-- What is known of an end of the interval, scaled: 'u' against whole numbers. -/
structure Scaled (u y A B T : Nat) : Prop where
  low : ∀ n, n * B ≤ y * A → 4 * n ≤ u
  high : ∀ n, y * A ≤ n * B → u ≤ 4 * n
  over : ∀ n M, M ≤ 2 * T → n * B < y * A → B ≤ (y * A - n * B) * M → 4 * n < u
  under : ∀ n M, M ≤ 2 * T → y * A < n * B → B ≤ (n * B - y * A) * M → u < 4 * n
  back : ∀ n, 4 * n ≤ u → 4 * T * (n * B) < 4 * T * (y * A) + 2 * B
theorem scaled {i x y r s : Nat} {e p j : Int} (hi : i < 696) (hp : p = (i : Int) - 348) (hx : x = y * 2 ^ r) (hx64 : x < 18446744073709551616) (hj : j = e + r)
    (hs : (s : Int) = -(e + lp10 p + 3)) (hpos : 18446744073709551616 ≤ x * (rowP i).1) :
    Scaled (uscaleN x (rowP i).1 (rowP i).2 s) y (numA j p) (denB j p) (18446744073709551616 * 2 ^ s) := by
  have hr := row_any i hi
  unfold rowOk at hr
  simp only [Bool.and_eq_true, decide_eq_true_eq, ← hp] at hr
  obtain ⟨⟨⟨⟨h1, h2⟩, h3⟩, h4⟩, h5⟩ := hr
  have hid := scale_id y r s e p j (lp10 p) hj hs
  rw [← hx] at hid
  generalize hPn : 10 ^ p.toNat * 2 ^ (127 - lp10 p).toNat = Pn at *
  generalize hPd : 10 ^ (-p).toNat * 2 ^ (lp10 p - 127).toNat = Pd at *
  have hPd0 : 0 < Pd := by rw [← hPd]; exact Nat.mul_pos (Nat.pow_pos (by decide)) (Nat.pow_pos (by decide))
  have hB := denB_pos j p
  have hT : 1 < 18446744073709551616 * 2 ^ s := by
    have : 0 < 2 ^ s := Nat.pow_pos (by decide)
    omega
  rw [uscale_eq x _ _ s hx64 h3 hpos]
  obtain ⟨L, R⟩ := prod_bounds (pm := (rowP i).1 * 18446744073709551616 - (rowP i).2) (lo := (rowP i).2) (hi := (rowP i).1) hx64 hB hPd0 (by omega) h4 h5 hid
  generalize prodW x (rowP i).1 (rowP i).2 = W at *
  generalize hTT : 18446744073709551616 * 2 ^ s = T at *
  generalize denB j p = B at *
  generalize numA j p = A at *
  have e4 : ∀ n, 4 * n * T * B = 4 * T * (n * B) := fun n => by simp only [Nat.mul_assoc, Nat.mul_comm, Nat.mul_left_comm]
  have gap : ∀ M d, M ≤ 2 * T → B ≤ d * M → 2 * B ≤ 4 * T * d := fun M d h h2 => by
    have h3 : d * M ≤ d * (2 * T) := Nat.mul_le_mul_left _ h
    have h4 : 4 * T * d = 2 * (d * (2 * T)) := by
      rw [Nat.mul_comm (4 * T), ← Nat.mul_assoc 2, Nat.mul_comm 2 d, Nat.mul_assoc d, ← Nat.mul_assoc 2]
    omega
  refine ⟨fun n h => (unr_le W T n (by omega)).2 ?_, fun n h => ?_, fun n M hM h hg => (unr_lt W T n hT).2 ?_, fun n M hM h hg => ?_, fun n h => ?_⟩
  · refine Nat.le_of_mul_le_mul_right (c := B) ?_ hB
    rw [e4]
    exact Nat.le_trans (Nat.mul_le_mul_left _ h) L
  · refine Nat.le_of_not_lt fun hlt => ?_
    have h2 := (unr_lt W T n hT).1 hlt
    have h3 : (4 * n * T + 2) * B ≤ W * B := Nat.mul_le_mul_right _ h2
    rw [Nat.add_mul, e4] at h3
    have h4 : 4 * T * (y * A) ≤ 4 * T * (n * B) := Nat.mul_le_mul_left _ h
    omega
  · refine Nat.le_of_mul_le_mul_right (c := B) ?_ hB
    rw [Nat.add_mul, e4]
    have h1 := gap M _ hM hg
    have h2 : 4 * T * (n * B) + 4 * T * (y * A - n * B) = 4 * T * (y * A) := by rw [← Nat.mul_add]; congr 1; omega
    omega
  · refine Nat.lt_of_not_le fun hle => ?_
    have h2 := (unr_le W T n (by omega)).1 hle
    have h3 : 4 * n * T * B ≤ W * B := Nat.mul_le_mul_right _ h2
    rw [e4] at h3
    have h1 := gap M _ hM hg
    have h2 : 4 * T * (y * A) + 4 * T * (n * B - y * A) = 4 * T * (n * B) := by rw [← Nat.mul_add]; congr 1; omega
    omega
  · have h2 := (unr_le W T n (by omega)).1 h
    have h3 : 4 * n * T * B ≤ W * B := Nat.mul_le_mul_right _ h2
    rw [e4] at h3
    omega

/-- What 'shortFloat' computes of the scaled ends: the digits and the power of ten (as its negative). -/
def shortD (umin umax um odd : Nat) : Nat :=
  if (umin + odd + 3) / 4 ≤ (umax - odd) / 4 / 10 * 10 then (umax - odd) / 4 / 10
  else if (umin + odd + 3) / 4 < (umax - odd) / 4 then roundU um else (umin + odd + 3) / 4
def shortTen (umin umax odd : Nat) : Nat := if (umin + odd + 3) / 4 ≤ (umax - odd) / 4 / 10 * 10 then 1 else 0
/-- 'n' lies in the interval around the float. -/
def Inside (n lo hi A B odd : Nat) : Prop := (lo * A < n * B ∨ lo * A = n * B ∧ odd = 0) ∧ (n * B < hi * A ∨ n * B = hi * A ∧ odd = 0)
/-- A multiple of ten in the interval is what is taken. -/
theorem short_tens {umin umax um lo hi A B T odd w c : Nat} (h1 : Scaled umin lo A B T) (h2 : Scaled umax hi A B T) (hodd : odd ≤ 1) (hw : hi = lo + w) (hT : 2 ^ 69 ≤ T)
    (hwide : w * A * 2 ^ 70 + B ≤ 10 * B * 2 ^ 70) (hgap : odd = 1 → ∃ M, M ≤ 2 * T ∧ ∀ y n, y = lo ∨ y = hi → (y * A < n * B → B ≤ (n * B - y * A) * M) ∧ (n * B < y * A → B ≤ (y * A - n * B) * M))
    (hc : Inside (10 * c) lo hi A B odd) : shortD umin umax um odd = c ∧ shortTen umin umax odd = 1 := by
  have g1 : (umin + odd + 3) / 4 ≤ 10 * c := by
    rcases Nat.lt_or_ge odd 1 with h | h
    · have : lo * A ≤ 10 * c * B := by rcases hc.1 with h | h <;> omega
      have := h1.high _ this
      omega
    · have ho : odd = 1 := by omega
      obtain ⟨M, hM, hg⟩ := hgap ho
      have hlt : lo * A < 10 * c * B := by rcases hc.1 with h | h <;> omega
      have := h1.under _ M hM hlt ((hg lo (10 * c) (.inl rfl)).1 hlt)
      omega
  have g2 : 10 * c ≤ (umax - odd) / 4 := by
    rcases Nat.lt_or_ge odd 1 with h | h
    · have : 10 * c * B ≤ hi * A := by rcases hc.2 with h | h <;> omega
      have := h2.low _ this
      omega
    · have ho : odd = 1 := by omega
      obtain ⟨M, hM, hg⟩ := hgap ho
      have hlt : 10 * c * B < hi * A := by rcases hc.2 with h | h <;> omega
      have := h2.over _ M hM hlt ((hg hi (10 * c) (.inr rfl)).2 hlt)
      omega
  have hbr : (umin + odd + 3) / 4 ≤ (umax - odd) / 4 / 10 * 10 := by omega
  refine ⟨?_, by rw [shortTen, if_pos hbr]⟩
  rw [shortD, if_pos hbr]
  refine Nat.le_antisymm (Nat.le_of_not_lt fun hlt => ?_) (by omega)
  have g3 : 4 * (10 * (c + 1)) ≤ umax := by omega
  have g4 := h2.back _ g3
  have g5 : lo * A ≤ 10 * c * B := by rcases hc.1 with h | h <;> omega
  have g6 : 4 * T * (lo * A) ≤ 4 * T * (10 * c * B) := Nat.mul_le_mul_left _ g5
  have g7 : 10 * (c + 1) * B = 10 * c * B + 10 * B := by rw [Nat.mul_add, Nat.add_mul]
  rw [g7, hw, Nat.add_mul lo, Nat.mul_add (4 * T), Nat.mul_add (4 * T)] at g4
  -- 4 T * 10 B < 4 T * w A + 2 B
  have g8 : 4 * T * (10 * B) < 4 * T * (w * A) + 2 * B := by omega
  rw [show (2 : Nat) ^ 70 = 1180591620717411303424 by decide] at hwide
  rw [show (2 : Nat) ^ 69 = 590295810358705651712 by decide] at hT
  obtain ⟨K, hK⟩ : ∃ K, K = 590295810358705651712 := ⟨_, rfl⟩
  rw [show 1180591620717411303424 = 2 * K by omega] at hwide
  rw [← hK] at hT
  have hK0 : 0 < K := by omega
  clear hK
  have g9 : 4 * T * (w * A) * (2 * K) + 4 * T * B ≤ 4 * T * (10 * B) * (2 * K) := by
    have := Nat.mul_le_mul_left (4 * T) hwide
    rw [Nat.mul_add, ← Nat.mul_assoc (4 * T) (w * A), ← Nat.mul_assoc (4 * T) (10 * B)] at this
    exact this
  have g10 : 2 * B * (2 * K) ≤ 4 * T * B := by
    have := Nat.mul_le_mul_right B (Nat.mul_le_mul_left 4 hT)
    have e : 2 * B * (2 * K) = 4 * K * B := by
      rw [Nat.mul_assoc 2, Nat.mul_left_comm B 2 K, ← Nat.mul_assoc 2, Nat.mul_comm B K, ← Nat.mul_assoc]
    omega
  have g11 := Nat.mul_lt_mul_of_pos_right g8 (show 0 < 2 * K by omega)
  rw [Nat.add_mul] at g11
  omega
end Go.Proofs.YtnfddblpenninaaDoor
/- The small steps of the shortest digits: skewed logarithm, nudge, ceiling, floor; then the shortest digits themselves. -/
namespace Go.Proofs.YtnfddblpenninaaDoor
open Go.RowKit

set_option maxRecDepth 100000 in
theorem skewed_any (x : Int) (h1 : -5000 ≤ x) (h2 : x ≤ 5000) (w : World) : Calls Tryd.prog 76 #[.int .i64 x] w fun e w' => e = .returned (.int .i64 ((x * 631305 - 261663) / 2097152)) ∧ w' = w := by
  go_enter Tryd.func76, Tryd.ntmps76
  go_wp2_with fail
  go_returns
  exact ⟨rfl, rfl⟩
set_option maxRecDepth 100000 in
theorem nudge_any (u v : Nat) (δ : Int) (hδ : δ = 0 ∨ δ = 1 ∨ δ = -1) (hu : u < 9223372036854775808) (hv : (u : Int) + δ = (v : Int)) (w : World) : Calls Tryd.prog 80 #[.int .u64 (u : Int), .int .i64 δ] w fun e w' => e = .returned (.int .u64 (v : Int)) ∧ w' = w := by
  rcases hδ with rfl | rfl | rfl
  · obtain rfl : u = v := by omega
    clear hv
    go_enter Tryd.func80, Tryd.ntmps80
    go_wp2_with fail
    go_returns
    exact ⟨rfl, rfl⟩
  · obtain rfl : v = u + 1 := by omega
    clear hv
    go_enter Tryd.func80, Tryd.ntmps80
    go_wp2_with fail
    go_returns
    exact ⟨congrArg (fun n => Ending.returned (.int .u64 n)) (by omega), rfl⟩
  · have hw : IntKind.u64.wrap ((u : Int) + 18446744073709551615) = (v : Int) := by rw [IntKind.wrap_u64]; omega
    clear hv
    go_enter Tryd.func80, Tryd.ntmps80
    go_wp2_with fail
    go_returns
    exact ⟨congrArg (fun n => Ending.returned (.int .u64 n)) hw, rfl⟩
set_option maxRecDepth 100000 in
theorem ceil_any (u : Nat) (hu : u < 9223372036854775808) (w : World) : Calls Tryd.prog 81 #[.int .u64 (u : Int)] w fun e w' => e = .returned (.int .u64 (((u + 3) / 4 : Nat) : Int)) ∧ w' = w := by
  go_enter Tryd.func81, Tryd.ntmps81
  go_wp2_with fail
  go_returns
  exact ⟨congrArg (fun n => Ending.returned (.int .u64 n)) (by omega), rfl⟩
set_option maxRecDepth 100000 in
theorem floor_any (u : Nat) (hu : u < 9223372036854775808) (w : World) : Calls Tryd.prog 82 #[.int .u64 (u : Int)] w fun e w' => e = .returned (.int .u64 ((u / 4 : Nat) : Int)) ∧ w' = w := by
  go_enter Tryd.func82, Tryd.ntmps82
  go_wp2_with fail
  go_returns
  exact ⟨congrArg (fun n => Ending.returned (.int .u64 n)) (by omega), rfl⟩
end Go.Proofs.YtnfddblpenninaaDoor
