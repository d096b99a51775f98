/- What the shortest digits need of a float's parts. Plain laws, no program in sight. -/
import Derived.Test.YtnfddblpenninaaDoorMgL
namespace Go.Proofs.YtnfddblpenninaaDoor
open Go.RowKit

/-- The facts of one exponent. -/
structure CertFacts (k : Int) (A B : Nat) : Prop where
  l0 : 0 ≤ k + lp10 (p10 k)
  l3 : k + lp10 (p10 k) ≤ 3
  plo : -348 ≤ p10 k
  phi : p10 k ≤ 347
  wide : 2 * A * 2 ^ 70 + B ≤ 10 * B * 2 ^ 70
  half : B ≤ 2 * A
  gap : ∀ y n, y ≤ 18014398509481985 → (y * A < n * B → B ≤ (n * B - y * A) * 2 ^ (73 - k - lp10 (p10 k)).toNat) ∧ (n * B < y * A → B ≤ (y * A - n * B) * 2 ^ (73 - k - lp10 (p10 k)).toNat)
set_option maxRecDepth 100000 in
theorem cert_facts (k : Int) (h1 : -1074 ≤ k) (h2 : k ≤ 971) : CertFacts k (numA (k - 1) (p10 k)) (denB (k - 1) (p10 k)) := by
  obtain ⟨b, d, h⟩ := cert_any k h1 h2
  have hB := denB_pos (k - 1) (p10 k)
  unfold certOk at h
  simp only [Bool.and_eq_true, Bool.or_eq_true, decide_eq_true_eq] at h
  obtain ⟨A, hA⟩ : ∃ A, A = numA (k - 1) (p10 k) := ⟨_, rfl⟩
  obtain ⟨B, hB2⟩ : ∃ B, B = denB (k - 1) (p10 k) := ⟨_, rfl⟩
  rw [← hA, ← hB2] at h
  rw [← hA, ← hB2]
  rw [← hB2] at hB
  obtain ⟨⟨⟨⟨⟨⟨⟨⟨⟨a1, a2⟩, a3⟩, a4⟩, a5⟩, a6⟩, a7⟩, a8⟩, a9⟩, a10⟩ := h
  refine ⟨a1, a2, a3, a4, a9, a10, fun y n hy => farey a5 a6 hy (Nat.div_mul_le_self _ _) ?_ a7 a8⟩
  have h3 := Nat.div_add_mod (d * A) B
  have h4 := Nat.mod_lt (d * A) hB
  rw [Nat.add_mul, Nat.one_mul, Nat.mul_comm _ B]
  omega
/-- What is asked of the parts of a float by 'shortFloat', and what it hands back. -/
structure ShortOk (p e : Int) (m mn mx odd lo hi A B i s : Nat) : Prop where
  fi : i < 696
  fp : p + 348 = (i : Int)
  fs : -(e + lp10 p + 3) = (s : Int)
  fs1 : s ≤ 63
  fmx : mx < 18446744073709551616
  b1 : uscaleN mn (rowP i).1 (rowP i).2 s < 1152921504606846976
  b2 : uscaleN mx (rowP i).1 (rowP i).2 s < 1152921504606846976
  b3 : uscaleN m (rowP i).1 (rowP i).2 s < 1152921504606846976
  b4 : 1 ≤ uscaleN mx (rowP i).1 (rowP i).2 s
  d1 : 1 ≤ shortD (uscaleN mn (rowP i).1 (rowP i).2 s) (uscaleN mx (rowP i).1 (rowP i).2 s) (uscaleN m (rowP i).1 (rowP i).2 s) odd
  d2 : shortD (uscaleN mn (rowP i).1 (rowP i).2 s) (uscaleN mx (rowP i).1 (rowP i).2 s) (uscaleN m (rowP i).1 (rowP i).2 s) odd < 100000000000000000
  few : ∀ c, Inside (10 * c) lo hi A B odd → shortD (uscaleN mn (rowP i).1 (rowP i).2 s) (uscaleN mx (rowP i).1 (rowP i).2 s) (uscaleN m (rowP i).1 (rowP i).2 s) odd = c ∧ shortTen (uscaleN mn (rowP i).1 (rowP i).2 s) (uscaleN mx (rowP i).1 (rowP i).2 s) odd = 1
/-- The digits are some, and not too many. -/
theorem short_range {umin umax um odd lo mid hi A B T : Nat} (h1 : Scaled umin lo A B T) (h2 : Scaled umax hi A B T) (h3 : Scaled um mid A B T) (hodd : odd ≤ 1) (hlo : 1 ≤ umin + odd) (hB : B ≤ mid * A) (hA : A < 5 * B)
    (l1 : lo ≤ 18014398509481984) (l2 : mid ≤ 18014398509481984) (l3 : hi ≤ 18014398509481990) :
    (umin < 1152921504606846976 ∧ umax < 1152921504606846976 ∧ um < 1152921504606846976) ∧ 1 ≤ shortD umin umax um odd ∧ shortD umin umax um odd < 100000000000000000 := by
  have up : ∀ y, y * A ≤ 5 * y * B := fun y => by
    have := Nat.mul_le_mul_left y (Nat.le_of_lt hA)
    rw [Nat.mul_comm 5 y, Nat.mul_assoc]
    exact this
  have u1 := h1.high _ (up lo)
  have u2 := h2.high _ (up hi)
  have u3 := h3.high _ (up mid)
  have u4 := h3.low 1 (by omega)
  refine ⟨⟨by omega, by omega, by omega⟩, ?_, ?_⟩
  · unfold shortD roundU
    split
    · omega
    · split <;> omega
  · unfold shortD roundU
    split
    · omega
    · split <;> omega
end Go.Proofs.YtnfddblpenninaaDoor
/- What the shortest digits need of a float's parts: shown for each float. Plain laws, no program in sight. -/
namespace Go.Proofs.YtnfddblpenninaaDoor
open Go.RowKit

theorem two_le (s : Nat) (h : 5 ≤ s) : 2 ^ 69 ≤ 18446744073709551616 * 2 ^ s := by
  have : 2 ^ 5 ≤ 2 ^ s := Nat.pow_le_pow_right (by decide) h
  rw [show (18446744073709551616 : Nat) = 2 ^ 64 by decide, show (69 : Nat) = 64 + 5 by decide, Nat.pow_add]
  exact Nat.mul_le_mul_left _ this
set_option maxRecDepth 100000 in
theorem short_okB (mant z : Nat) (k : Int) (hm0 : 1 ≤ mant) (hm53 : mant < 9007199254740992) (hk1 : -1074 ≤ k) (hk2 : k ≤ 971) (hz1 : 9223372036854775808 ≤ mant * 2 ^ z) (hz2 : mant * 2 ^ z < 18446744073709551616) (hz11 : 11 ≤ z) :
    ∃ i s, ShortOk (p10 k) (k - z) (mant * 2 ^ z) (mant * 2 ^ z - 2 ^ (z - 1)) (mant * 2 ^ z + 2 ^ (z - 1)) (mant % 2) (2 * mant - 1) (2 * mant + 1) (numA (k - 1) (p10 k)) (denB (k - 1) (p10 k)) i s := by
  have hz63 : z ≤ 63 := by
    have h1 : 2 ^ z < 2 ^ 64 := by
      have : 1 * 2 ^ z ≤ mant * 2 ^ z := Nat.mul_le_mul_right _ hm0
      exact Nat.lt_of_le_of_lt (by omega) hz2
    have := (Nat.pow_lt_pow_iff_right (by decide : 1 < 2)).1 h1
    omega
  have hF := cert_facts k hk1 hk2
  have hB := denB_pos (k - 1) (p10 k)
  obtain ⟨l0, l3, plo, phi, wide, half, gap⟩ := hF
  obtain ⟨i, hi⟩ := Int.eq_ofNat_of_zero_le (show 0 ≤ p10 k + 348 by omega)
  obtain ⟨s, hs⟩ := Int.eq_ofNat_of_zero_le (show 0 ≤ -(k - z + lp10 (p10 k) + 3) by omega)
  have hi6 : i < 696 := by omega
  have hr := row_any i hi6
  unfold rowOk at hr
  simp only [Bool.and_eq_true, decide_eq_true_eq] at hr
  have r2 := hr.1.1.1.2
  clear hr
  -- the shift's half
  obtain ⟨H, hH⟩ : ∃ H, H = 2 ^ (z - 1) := ⟨_, rfl⟩
  have hZ : 2 ^ z = 2 * H := by rw [hH, show z = (z - 1) + 1 by omega, Nat.pow_succ]; simp [Nat.mul_comm]
  have hHp : 0 < H := by rw [hH]; exact Nat.pow_pos (by decide)
  rw [← hH]
  have em : mant * 2 ^ z = 2 * mant * H := by rw [hZ, Nat.mul_left_comm, ← Nat.mul_assoc]
  have en : mant * 2 ^ z - H = (2 * mant - 1) * H := by rw [em, Nat.sub_mul, Nat.one_mul]
  have ex : mant * 2 ^ z + H = (2 * mant + 1) * H := by rw [em, Nat.add_mul, Nat.one_mul]
  have hH62 : H ≤ 4611686018427387904 := by
    rw [hH]
    exact Nat.le_trans (Nat.pow_le_pow_right (by decide) (show z - 1 ≤ 62 by omega)) (by decide)
  have htop : mant * 2 ^ z + 2 ^ z ≤ 18446744073709551616 := by
    have e64 : (18446744073709551616 : Nat) = 2 ^ (64 - z) * 2 ^ z := by rw [← Nat.pow_add, show 64 - z + z = 64 by omega]
    rw [e64] at hz2 ⊢
    have h1 : mant < 2 ^ (64 - z) := Nat.lt_of_mul_lt_mul_right hz2
    have h2 : (mant + 1) * 2 ^ z ≤ 2 ^ (64 - z) * 2 ^ z := Nat.mul_le_mul_right _ h1
    rw [Nat.add_mul, Nat.one_mul] at h2
    exact h2
  have hj : k - 1 = (k - z) + ((z - 1 : Nat) : Int) := by omega
  have prod : ∀ x : Nat, 4611686018427387904 ≤ x → 18446744073709551616 ≤ x * (rowP i).1 := fun x hx => Nat.le_trans (by decide : 18446744073709551616 ≤ 4611686018427387904 * 9223372036854775808) (Nat.mul_le_mul hx r2)
  have S1 := scaled (p := p10 k) (e := k - z) (j := k - 1) (s := s) hi6 (by omega) (show mant * 2 ^ z - H = (2 * mant - 1) * 2 ^ (z - 1) by rw [← hH]; exact en) (by omega) hj (by omega) (prod _ (by omega))
  have S2 := scaled (p := p10 k) (e := k - z) (j := k - 1) (s := s) hi6 (by omega) (show mant * 2 ^ z + H = (2 * mant + 1) * 2 ^ (z - 1) by rw [← hH]; exact ex) (by omega) hj (by omega) (prod _ (by omega))
  have S3 := scaled (p := p10 k) (e := k - z) (j := k - 1) (s := s) hi6 (by omega) (show mant * 2 ^ z = 2 * mant * 2 ^ (z - 1) by rw [← hH]; exact em) (by omega) hj (by omega) (prod _ (by omega))
  have hT := two_le s (by omega)
  have hM : 2 ^ (73 - k - lp10 (p10 k)).toNat ≤ 2 * (18446744073709551616 * 2 ^ s) := by
    rw [show 2 * (18446744073709551616 * 2 ^ s) = 2 ^ (65 + s) by rw [Nat.pow_add]; omega]
    exact Nat.pow_le_pow_right (by decide) (by omega)
  have hodd : mant % 2 ≤ 1 := by omega
  obtain ⟨A, hA⟩ : ∃ A, A = numA (k - 1) (p10 k) := ⟨_, rfl⟩
  obtain ⟨B, hB2⟩ : ∃ B, B = denB (k - 1) (p10 k) := ⟨_, rfl⟩
  obtain ⟨T, hTT⟩ : ∃ T, T = 18446744073709551616 * 2 ^ s := ⟨_, rfl⟩
  obtain ⟨M, hMM⟩ : ∃ M, M = 2 ^ (73 - k - lp10 (p10 k)).toNat := ⟨_, rfl⟩
  rw [← hA, ← hB2] at S1 S2 S3 gap
  rw [← hA, ← hB2] at wide half
  rw [← hB2] at hB
  rw [← hA, ← hB2]
  rw [← hTT] at S1 S2 S3 hT hM
  rw [← hMM] at hM gap
  clear hA hB2 hTT hMM
  obtain ⟨umin, h1⟩ : ∃ u, u = uscaleN (mant * 2 ^ z - H) (rowP i).1 (rowP i).2 s := ⟨_, rfl⟩
  obtain ⟨umax, h2⟩ : ∃ u, u = uscaleN (mant * 2 ^ z + H) (rowP i).1 (rowP i).2 s := ⟨_, rfl⟩
  obtain ⟨um, h3⟩ : ∃ u, u = uscaleN (mant * 2 ^ z) (rowP i).1 (rowP i).2 s := ⟨_, rfl⟩
  rw [← h1] at S1
  rw [← h2] at S2
  rw [← h3] at S3
  have hA5 : A < 5 * B := by
    rw [show (2 : Nat) ^ 70 = 1180591620717411303424 by decide] at wide
    omega
  have hmid : B ≤ 2 * mant * A := Nat.le_trans half (Nat.mul_le_mul_right _ (by omega))
  have hlo : 1 ≤ umin + mant % 2 := by
    rcases Nat.lt_or_ge 0 (mant % 2) with h | h
    · omega
    · have := S1.low 1 (by rw [Nat.one_mul]; exact Nat.le_trans half (Nat.mul_le_mul_right _ (by omega)))
      omega
  obtain ⟨⟨b1, b2, b3⟩, d1, d2⟩ := short_range S1 S2 S3 hodd hlo hmid hA5 (by omega) (by omega) (by omega)
  have b4 := S2.low 1 (by rw [Nat.one_mul]; exact Nat.le_trans half (Nat.mul_le_mul_right _ (by omega)))
  refine ⟨i, s, ⟨hi6, hi, hs, by omega, by omega, ?_, ?_, ?_, ?_, ?_, ?_, ?_⟩⟩
  all_goals (first | rw [← h1, ← h2, ← h3] | rw [← h1] | rw [← h2] | rw [← h3])
  · exact b1
  · exact b2
  · exact b3
  · omega
  · exact d1
  · exact d2
  · intro c hc
    exact short_tens S1 S2 hodd (w := 2) (by omega) hT wide (fun _ => ⟨M, hM, fun y n hy => gap y n (by rcases hy with rfl | rfl <;> omega)⟩) hc
set_option maxRecDepth 100000 in
theorem short_okA (mant z : Nat) (k : Int) (hm0 : 4 ≤ mant) (hev : mant % 2 = 0) (hm53 : mant ≤ 4503599627370496) (hk1 : -1074 ≤ k) (hk2 : k ≤ 971) (hz1 : 9223372036854775808 ≤ mant * 2 ^ z) (hz2 : mant * 2 ^ z < 18446744073709551616) (hz11 : 11 ≤ z) :
    ∃ i s, ShortOk (p10S k) (k - z) (mant * 2 ^ z) (mant * 2 ^ z - 2 ^ (z - 2)) (mant * 2 ^ z + 2 ^ (z - 1)) 0 (4 * mant - 1) (4 * mant + 2) (numA (k - 2) (p10S k)) (denB (k - 2) (p10S k)) i s := by
  have hz63 : z ≤ 63 := by
    have h1 : 2 ^ z < 2 ^ 64 := by
      have : 1 * 2 ^ z ≤ mant * 2 ^ z := Nat.mul_le_mul_right _ (by omega)
      exact Nat.lt_of_le_of_lt (by omega) hz2
    have := (Nat.pow_lt_pow_iff_right (by decide : 1 < 2)).1 h1
    omega
  have hF := skew_any k hk1 hk2
  unfold skewOk at hF
  simp only [Bool.and_eq_true, decide_eq_true_eq] at hF
  have hB := denB_pos (k - 2) (p10S k)
  obtain ⟨⟨⟨⟨⟨l0, l3⟩, plo⟩, phi⟩, wide⟩, half⟩ := hF
  obtain ⟨i, hi⟩ := Int.eq_ofNat_of_zero_le (show 0 ≤ p10S k + 348 by omega)
  obtain ⟨s, hs⟩ := Int.eq_ofNat_of_zero_le (show 0 ≤ -(k - z + lp10 (p10S k) + 3) by omega)
  have hi6 : i < 696 := by omega
  have hr := row_any i hi6
  unfold rowOk at hr
  simp only [Bool.and_eq_true, decide_eq_true_eq] at hr
  have r2 := hr.1.1.1.2
  clear hr
  -- the shift's half
  obtain ⟨H, hH⟩ : ∃ H, H = 2 ^ (z - 2) := ⟨_, rfl⟩
  have hZ : 2 ^ z = 4 * H := by rw [hH, show z = (z - 2) + 2 by omega, Nat.pow_succ, Nat.pow_succ, show z - 2 + 2 - 2 = z - 2 by omega]; omega
  have hZ1 : 2 ^ (z - 1) = 2 * H := by rw [hH, show z - 1 = (z - 2) + 1 by omega, Nat.pow_succ]; omega
  have hHp : 0 < H := by rw [hH]; exact Nat.pow_pos (by decide)
  rw [← hH, hZ1]
  have em : mant * 2 ^ z = 4 * mant * H := by rw [hZ, Nat.mul_left_comm, ← Nat.mul_assoc]
  have en : mant * 2 ^ z - H = (4 * mant - 1) * H := by rw [em, Nat.sub_mul, Nat.one_mul]
  have ex : mant * 2 ^ z + 2 * H = (4 * mant + 2) * H := by rw [em, Nat.add_mul]
  have hH62 : H ≤ 2305843009213693952 := by
    rw [hH]
    exact Nat.le_trans (Nat.pow_le_pow_right (by decide) (show z - 2 ≤ 61 by omega)) (by decide)
  have htop : mant * 2 ^ z + 2 ^ z ≤ 18446744073709551616 := by
    have e64 : (18446744073709551616 : Nat) = 2 ^ (64 - z) * 2 ^ z := by rw [← Nat.pow_add, show 64 - z + z = 64 by omega]
    rw [e64] at hz2 ⊢
    have h1 : mant < 2 ^ (64 - z) := Nat.lt_of_mul_lt_mul_right hz2
    have h2 : (mant + 1) * 2 ^ z ≤ 2 ^ (64 - z) * 2 ^ z := Nat.mul_le_mul_right _ h1
    rw [Nat.add_mul, Nat.one_mul] at h2
    exact h2
  have hj : k - 2 = (k - z) + ((z - 2 : Nat) : Int) := by omega
  have prod : ∀ x : Nat, 4611686018427387904 ≤ x → 18446744073709551616 ≤ x * (rowP i).1 := fun x hx => Nat.le_trans (by decide : 18446744073709551616 ≤ 4611686018427387904 * 9223372036854775808) (Nat.mul_le_mul hx r2)
  have S1 := scaled (p := p10S k) (e := k - z) (j := k - 2) (s := s) hi6 (by omega) (show mant * 2 ^ z - H = (4 * mant - 1) * 2 ^ (z - 2) by rw [← hH]; exact en) (by omega) hj (by omega) (prod _ (by omega))
  have S2 := scaled (p := p10S k) (e := k - z) (j := k - 2) (s := s) hi6 (by omega) (show mant * 2 ^ z + 2 * H = (4 * mant + 2) * 2 ^ (z - 2) by rw [← hH]; exact ex) (by omega) hj (by omega) (prod _ (by omega))
  have S3 := scaled (p := p10S k) (e := k - z) (j := k - 2) (s := s) hi6 (by omega) (show mant * 2 ^ z = 4 * mant * 2 ^ (z - 2) by rw [← hH]; exact em) (by omega) hj (by omega) (prod _ (by omega))
  have hT := two_le s (by omega)
  have hodd : 0 ≤ 1 := by omega
  obtain ⟨A, hA⟩ : ∃ A, A = numA (k - 2) (p10S k) := ⟨_, rfl⟩
  obtain ⟨B, hB2⟩ : ∃ B, B = denB (k - 2) (p10S k) := ⟨_, rfl⟩
  obtain ⟨T, hTT⟩ : ∃ T, T = 18446744073709551616 * 2 ^ s := ⟨_, rfl⟩
  rw [← hA, ← hB2] at S1 S2 S3
  rw [← hA, ← hB2] at wide half
  rw [← hB2] at hB
  rw [← hA, ← hB2]
  rw [← hTT] at S1 S2 S3 hT
  clear hA hB2 hTT
  obtain ⟨umin, h1⟩ : ∃ u, u = uscaleN (mant * 2 ^ z - H) (rowP i).1 (rowP i).2 s := ⟨_, rfl⟩
  obtain ⟨umax, h2⟩ : ∃ u, u = uscaleN (mant * 2 ^ z + 2 * H) (rowP i).1 (rowP i).2 s := ⟨_, rfl⟩
  obtain ⟨um, h3⟩ : ∃ u, u = uscaleN (mant * 2 ^ z) (rowP i).1 (rowP i).2 s := ⟨_, rfl⟩
  rw [← h1] at S1
  rw [← h2] at S2
  rw [← h3] at S3
  have hA5 : A < 5 * B := by
    rw [show (2 : Nat) ^ 70 = 1180591620717411303424 by decide] at wide
    omega
  have hmid : B ≤ 4 * mant * A := Nat.le_trans half (Nat.mul_le_mul_right _ (by omega))
  have hlo : 1 ≤ umin + 0 := by
    have := S1.low 1 (by rw [Nat.one_mul]; exact Nat.le_trans half (Nat.mul_le_mul_right _ (by omega)))
    omega
  obtain ⟨⟨b1, b2, b3⟩, d1, d2⟩ := short_range S1 S2 S3 hodd hlo hmid hA5 (by omega) (by omega) (by omega)
  have b4 := S2.low 1 (by rw [Nat.one_mul]; exact Nat.le_trans half (Nat.mul_le_mul_right _ (by omega)))
  refine ⟨i, s, ⟨hi6, hi, hs, by omega, by omega, ?_, ?_, ?_, ?_, ?_, ?_, ?_⟩⟩
  all_goals (first | rw [← h1, ← h2, ← h3] | rw [← h1] | rw [← h2] | rw [← h3])
  · exact b1
  · exact b2
  · exact b3
  · omega
  · exact d1
  · exact d2
  · intro c hc
    exact short_tens S1 S2 hodd (w := 3) (by omega) hT wide (fun h => by omega) hc
end Go.Proofs.YtnfddblpenninaaDoor
