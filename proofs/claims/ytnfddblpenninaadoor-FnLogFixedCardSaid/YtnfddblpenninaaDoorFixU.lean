/- Whether a number's digits come before those of another, as fractions. -/
import Derived.Test.YtnfddblpenninaaDoorFixT
namespace Go.Proofs.YtnfddblpenninaaDoor
open Go.RowKit

theorem lex_lt (d e : Nat → UInt8) (n m i : Nat) (hi : i < n) (hi' : i < m) (hs : ∀ t, t < i → d t = e t) (hd : ∀ t, t < n → 48 ≤ (d t).toNat ∧ (d t).toNat ≤ 57) (hlt : (d i).toNat < (e i).toNat) :
    sufN d 0 n * 10 ^ m < sufN e 0 m * 10 ^ n := by
  have h1 := sufN_split d i (n - i) 0
  have h2 := sufN_split e i (m - i) 0
  rw [show i + (n - i) = n by omega, Nat.zero_add] at h1
  rw [show i + (m - i) = m by omega, Nat.zero_add, ← sufN_congr i 0 fun t _ h => hs t (by omega)] at h2
  obtain ⟨p, hp⟩ : ∃ p, n - i = p + 1 := ⟨n - i - 1, by omega⟩
  obtain ⟨q, hq⟩ : ∃ q, m - i = q + 1 := ⟨m - i - 1, by omega⟩
  rw [hp, sufN] at h1
  rw [hq, sufN] at h2
  have h3 := sufN_lt d p (i + 1) fun t ht1 ht2 => (hd t (by omega)).2
  obtain ⟨P, hP⟩ : ∃ P, P = sufN d 0 i := ⟨_, rfl⟩
  rw [← hP] at h1 h2
  have hdi := hd i hi
  obtain ⟨x, hx⟩ : ∃ x, (d i).toNat = 48 + x := ⟨(d i).toNat - 48, by omega⟩
  obtain ⟨y, hy⟩ : ∃ y, (e i).toNat = 48 + y := ⟨(e i).toNat - 48, by omega⟩
  rw [hx, show 48 + x - 48 = x by omega] at h1
  rw [hy, show 48 + y - 48 = y by omega] at h2
  have hxy : x + 1 ≤ y := by omega
  have hn1 : sufN d 0 n < (P * 10 + (x + 1)) * 10 ^ p := by
    rw [h1, Nat.pow_succ, Nat.add_mul, Nat.add_mul, Nat.one_mul, Nat.mul_assoc, Nat.mul_comm 10]
    omega
  have hm1 : (P * 10 + y) * 10 ^ q ≤ sufN e 0 m := by
    rw [h2, Nat.pow_succ, Nat.add_mul, Nat.mul_assoc, Nat.mul_comm 10]
    omega
  have hmul : (P * 10 + (x + 1)) * 10 ^ p * 10 ^ m ≤ (P * 10 + y) * 10 ^ q * 10 ^ n := by
    have : n + q = p + m := by omega
    rw [Nat.mul_assoc, Nat.mul_assoc, ← Nat.pow_add, ← Nat.pow_add, Nat.add_comm q n, this]
    exact Nat.mul_le_mul_right _ (by omega)
  calc sufN d 0 n * 10 ^ m < (P * 10 + (x + 1)) * 10 ^ p * 10 ^ m := Nat.mul_lt_mul_of_pos_right hn1 (Nat.pow_pos (by decide))
    _ ≤ (P * 10 + y) * 10 ^ q * 10 ^ n := hmul
    _ ≤ sufN e 0 m * 10 ^ n := Nat.mul_le_mul_right _ hm1
theorem lex_ge (d e : Nat → UInt8) (n m : Nat) (hm : m ≤ n) (hs : ∀ t, t < m → d t = e t) : sufN e 0 m * 10 ^ n ≤ sufN d 0 n * 10 ^ m := by
  have h1 := sufN_split d m (n - m) 0
  rw [show m + (n - m) = n by omega, Nat.zero_add, sufN_congr m 0 fun t _ h => hs t (by omega)] at h1
  rw [h1, Nat.add_mul, Nat.mul_assoc, ← Nat.pow_add, show n - m + m = n by omega]
  exact Nat.le_add_right _ _
theorem sufN_pos (e : Nat → UInt8) (n a : Nat) (h : 48 < (e (a + n)).toNat) : 0 < sufN e a (n + 1) := by
  rw [sufN_snoc]
  omega
theorem lex_short (d e : Nat → UInt8) (n m : Nat) (hm : n < m) (hs : ∀ t, t < n → d t = e t) (hl : 48 < (e (m - 1)).toNat) : sufN d 0 n * 10 ^ m < sufN e 0 m * 10 ^ n := by
  have h1 := sufN_split e n (m - n) 0
  rw [show n + (m - n) = m by omega, Nat.zero_add, ← sufN_congr n 0 fun t _ h => hs t (by omega)] at h1
  have h2 : 0 < sufN e n (m - n) := by
    obtain ⟨q, hq⟩ : ∃ q, m - n = q + 1 := ⟨m - n - 1, by omega⟩
    rw [hq]
    refine sufN_pos e q n ?_
    rw [show n + q = m - 1 by omega]
    exact hl
  rw [h1, Nat.add_mul, Nat.mul_assoc, ← Nat.pow_add, show m - n + n = m by omega]
  have := Nat.mul_pos h2 (Nat.pow_pos (n := n) (by decide : 0 < 10))
  omega

set_option maxRecDepth 100000 in
set_option maxHeartbeats 4000000 in
theorem prefix_walk (a n m cp : Nat) (d : Nat → UInt8) (s : ByteArray) (l : List UInt8) (hs : s.data.toList = l) (hm : l.length = m) (e : Nat → UInt8) (he : ∀ i (h : i < l.length), e i = l[i]) (w : World)
    (hc : ∀ i, i < n → w.cell? ⟨a, i, none⟩ = some (.int .u8 ((d i).toNat : Int))) (hd : ∀ t, t < n → 48 ≤ (d t).toNat ∧ (d t).toNat ≤ 57) (hE : ∀ t, t < m → 48 ≤ (e t).toNat ∧ (e t).toNat ≤ 57) (hl : 48 < (e (m - 1)).toNat) (hn : n ≤ 800) (hm1 : m ≤ 800) (hcp : n ≤ cp) :
    Calls Tryd.prog 99 #[.slice (some ⟨a, 0, none⟩) n cp, .string s] w fun x w' => x = .returned (.bool (decide (sufN d 0 n * 10 ^ m < sufN e 0 m * 10 ^ n))) ∧ ∃ q, w' = w.drewN q := by
  have hz : s.size = m := by rw [size_of hs, hm]
  obtain ⟨b, hb⟩ : ∃ b, b = decide (sufN d 0 n * 10 ^ m < sufN e 0 m * 10 ^ n) := ⟨_, rfl⟩
  rw [← hb]
  have HH := Lib.hid (And.intro hs (And.intro hm (And.intro he (And.intro hc (And.intro hd (And.intro hE hl))))))
  have HB := Lib.hid hb
  clear hs hm he hc hd hE hl hb
  go_enter Tryd.func99, Tryd.ntmps99
  go_wp2_with fail
  go_loopw [5] (fun v5 wr => ∃ i : Nat, v5 = .int .i64 i ∧ i ≤ m ∧ i ≤ n ∧ Hid ((∃ q, wr = w.drewN q) ∧ ∀ t, t < i → d t = e t)) (fun v5 _ => m - (intOf v5).toNat)
  case atStart => exact ⟨0, rfl, Nat.zero_le _, Nat.zero_le _, Lib.hid ⟨⟨0, rfl⟩, fun t h => by omega⟩⟩
  case round =>
    obtain ⟨i, rfl, hi, hin, hM⟩ := hrel
    rcases Nat.eq_or_lt_of_le hi with rfl | him
    · have hbf : b = false := by
        rw [HB.out]
        exact decide_eq_false (Nat.not_lt.2 (lex_ge d e n i hin fun t h => hM.out.2 t h))
      subst hbf
      go_wp2_with fail
      go_returns
      exact ⟨rfl, hM.out.1⟩
    · rcases Nat.eq_or_lt_of_le hin with rfl | hin2
      · have hbt : b = true := by
          rw [HB.out]
          exact decide_eq_true (lex_short d e i m him (fun t h => hM.out.2 t h) HH.out.2.2.2.2.2.2)
        subst hbt
        go_wp2_with fail
        go_returns
        exact ⟨rfl, hM.out.1⟩
      · have hil : i < l.length := by rw [HH.out.2.1]; exact him
        have hy := byte_at s l HH.out.1 i hil
        rw [← HH.out.2.2.1 i hil] at hy
        have hcc : wr.cell? ⟨a, i, none⟩ = some (.int .u8 ((d i).toNat : Int)) := by
          obtain ⟨q, h⟩ := hM.out.1
          rw [h]
          exact HH.out.2.2.2.1 i hin2
        obtain ⟨x, hx⟩ : ∃ x, x = (d i).toNat := ⟨_, rfl⟩
        obtain ⟨y, hy0⟩ : ∃ y, y = (e i).toNat := ⟨_, rfl⟩
        rw [← hx] at hcc
        rw [← hy0] at hy
        have HX := Lib.hid (And.intro hx hy0)
        clear hx hy0 hi hin
        have hdr : ∀ k, ∃ q, wr.drewN k = w.drewN q := fun k => by
          obtain ⟨q, h⟩ := hM.out.1
          exact ⟨q + k, by rw [h, World.drewN_drewN]⟩
        have HDR := Lib.hid hdr
        clear hdr
        by_cases hxy : x = y
        · have hq : ((x : Int) == (y : Int)) = true := by simp; omega
          have hq2 : ((x : Int) != (y : Int)) = false := by simp; omega
          have HXY := Lib.hid hxy
          clear hxy
          go_wp2_with fail
          go_quiet (fail)
          go_wp2_with fail
          refine ⟨⟨i + 1, by go_num, by omega, by omega, Lib.hid ⟨HDR.out _, fun t ht => ?_⟩⟩, by simp [intOf]; omega⟩
          by_cases hti : t = i
          · rw [hti]
            exact UInt8.toNat_inj.1 (by rw [← HX.out.1, ← HX.out.2, HXY.out])
          · exact hM.out.2 t (by omega)
        · have hq : ((x : Int) == (y : Int)) = false := by simp; omega
          have hq2 : ((x : Int) != (y : Int)) = true := by simp; omega
          have hbd : b = decide (x < y) := by
            rw [HB.out]
            rcases Nat.lt_or_ge x y with h | h
            · rw [decide_eq_true h]
              exact decide_eq_true (lex_lt d e n m i hin2 him (fun t h => hM.out.2 t h) HH.out.2.2.2.2.1 (by rw [← HX.out.1, ← HX.out.2]; exact h))
            · rw [decide_eq_false (Nat.not_lt.2 h)]
              exact decide_eq_false (Nat.not_lt.2 (Nat.le_of_lt (lex_lt e d m n i him hin2 (fun t h => (hM.out.2 t h).symm) HH.out.2.2.2.2.2.1 (by rw [← HX.out.1, ← HX.out.2]; omega))))
          have HBD := Lib.hid hbd
          clear hbd hxy
          go_wp2_with fail
          go_quiet (fail)
          obtain ⟨wk, hwk⟩ : ∃ wk, wk = wr.drewN nq := ⟨_, rfl⟩
          rw [← hwk]
          have hcc2 : wk.cell? ⟨a, i, none⟩ = some (.int .u8 (x : Int)) := by rw [hwk]; exact hcc
          have HW := Lib.hid hwk
          clear hwk hcc
          go_wp2_with fail
          go_quiet (fail)
          go_wp2_with fail
          go_returns
          refine ⟨?_, ?_⟩
          · rw [HBD.out]
            rfl
          · rw [HW.out, World.drewN_drewN]
            exact HDR.out _
#print axioms prefix_walk
end Go.Proofs.YtnfddblpenninaaDoor
