/- Powers' logarithms; a number times a power of two and of ten, unrounded. -/
import Derived.Test.YtnfddblpenninaaDoorFixN
namespace Go.Proofs.YtnfddblpenninaaDoor
open Go.RowKit

set_option maxRecDepth 100000 in
theorem log10_any (x : Int) (h1 : -5000 ≤ x) (h2 : x ≤ 5000) (w : World) : Calls Tryd.prog 62 #[.int .i64 x] w fun e w' => e = .returned (.int .i64 (x * 78913 / 262144)) ∧ w' = w := by
  go_enter Tryd.func62, Tryd.ntmps62
  go_wp2_with fail
  go_returns
  exact ⟨rfl, rfl⟩
set_option maxRecDepth 100000 in
theorem log2_any (x : Int) (h1 : -5000 ≤ x) (h2 : x ≤ 5000) (w : World) : Calls Tryd.prog 78 #[.int .i64 x] w fun e w' => e = .returned (.int .i64 (x * 108853 / 32768)) ∧ w' = w := by
  go_enter Tryd.func78, Tryd.ntmps78
  go_wp2_with fail
  go_returns
  exact ⟨rfl, rfl⟩
theorem and63 (s : Nat) (hs : s ≤ 63) : bits .and .i64 (s : Int) 63 = (s : Int) := by
  have h : ∀ k : Fin 64, bits .and .i64 ((k.val : Nat) : Int) 63 = ((k.val : Nat) : Int) := by decide
  exact h ⟨s, by omega⟩
/-- A scaler in memory. -/
def Scaler (w : World) (g hi lo : Nat) (s : Int) : Prop := w.cell? ⟨g, 0, none⟩ = some (.int .u64 (hi : Int)) ∧ w.cell? ⟨g, 1, none⟩ = some (.int .u64 (lo : Int)) ∧ w.cell? ⟨g, 2, none⟩ = some (.int .i64 s)
/-- What 'uscale' computes. -/
def uscaleN (x hi lo s : Nat) : Nat :=
  if x * hi / 18446744073709551616 % 2 ^ s ≠ 0 then x * hi / 18446744073709551616 / 2 ^ s ||| 1
  else if x * hi % 18446744073709551616 < x * lo / 18446744073709551616 then
    (x * hi / 18446744073709551616 - 1) / 2 ^ s ||| (if 1 < (x * hi % 18446744073709551616 + 18446744073709551616 - x * lo / 18446744073709551616) % 18446744073709551616 then 1 else 0)
  else x * hi / 18446744073709551616 / 2 ^ s ||| (if 1 < x * hi % 18446744073709551616 - x * lo / 18446744073709551616 then 1 else 0)

set_option maxRecDepth 100000 in
set_option maxHeartbeats 4000000 in
theorem uscale_walk (g x hi lo s : Nat) (hx : x < 18446744073709551616) (hhi : hi < 18446744073709551616) (hlo : lo < 18446744073709551616) (hs : s ≤ 63) (w : World) (hg : g < w.heap.size) (hS : Scaler w g hi lo s) (hp : 18446744073709551616 ≤ x * hi) :
    Calls Tryd.prog 79 #[.int .u64 (x : Int), .pointer (some ⟨g, 0, none⟩)] w fun e w' => e = .returned (.int .u64 (uscaleN x hi lo s : Int)) ∧ Below w.heap.size w w' := by
  obtain ⟨hc0, hc1, hc2⟩ := hS
  have c1 := Tryd.bits_Mul64 x hi hx hhi w
  have c2 := Tryd.bits_Mul64 x lo hx hlo w
  obtain ⟨h, hh⟩ : ∃ h, h = x * hi / 18446744073709551616 := ⟨_, rfl⟩
  obtain ⟨mid, hmid⟩ : ∃ h, h = x * hi % 18446744073709551616 := ⟨_, rfl⟩
  obtain ⟨h2, hh2⟩ : ∃ h, h = x * lo / 18446744073709551616 := ⟨_, rfl⟩
  obtain ⟨mid3, hmid3⟩ : ∃ h, h = x * lo % 18446744073709551616 := ⟨_, rfl⟩
  rw [← hh, ← hmid] at c1
  rw [← hh2, ← hmid3] at c2
  have hu : uscaleN x hi lo s = if h % 2 ^ s ≠ 0 then h / 2 ^ s ||| 1
    else if mid < h2 then (h - 1) / 2 ^ s ||| (if 1 < (mid + 18446744073709551616 - h2) % 18446744073709551616 then 1 else 0)
    else h / 2 ^ s ||| (if 1 < mid - h2 then 1 else 0) := by rw [hh, hmid, hh2]; rfl
  have C1 := Lib.hid c1
  have C2 := Lib.hid c2
  have HU := Lib.hid hu
  have b1 : h < 18446744073709551616 := by
    rw [hh]
    have : x * hi ≤ 18446744073709551615 * 18446744073709551615 := Nat.mul_le_mul (by omega) (by omega)
    omega
  have b0 : 1 ≤ h := by omega
  have b2 : mid < 18446744073709551616 := by omega
  have b3 : h2 < 18446744073709551616 := by
    rw [hh2]
    have : x * lo ≤ 18446744073709551615 * 18446744073709551615 := Nat.mul_le_mul (by omega) (by omega)
    omega
  clear c1 c2 hu hh hmid hh2 hmid3 hp
  have ha : bits .and .i64 (s : Int) 63 = (s : Int) := and63 s hs
  have hpw : ((2 : Int) ^ s) = ((2 ^ s : Nat) : Int) := by simp
  have hdv : ((h : Int) / 2 ^ s) = ((h / 2 ^ s : Nat) : Int) := by rw [hpw, Int.natCast_ediv]
  have hsh : (IntKind.u64.wrap ((h : Int) / 2 ^ s * 2 ^ s) != (h : Int)) = (h % 2 ^ s != 0) := by
    rw [hdv, hpw, ← Int.natCast_mul, IntKind.wrap_u64]
    have h1 := Nat.div_add_mod h (2 ^ s)
    have h3 : h / 2 ^ s * 2 ^ s ≤ h := Nat.div_mul_le_self _ _
    rw [Nat.mul_comm] at h1
    rw [Bool.eq_iff_iff]
    simp only [bne_iff_ne, ne_eq]
    omega
  obtain ⟨z, hz⟩ : ∃ z, z = (h % 2 ^ s != 0) := ⟨_, rfl⟩
  rw [← hz] at hsh
  have HSH := Lib.hid (And.intro hsh (And.intro hdv hz))
  clear hsh hdv hz hpw
  go_enter Tryd.func79, Tryd.ntmps79
  go_upto_region 3 with (first
    | (go_at_call 96; (with_reducible refine C1.out.mono ?_); rintro e w1 ⟨rfl, rfl⟩))
  go_cut [30] (fun q wz => q = .bool z ∧ wz = w1)
  case first =>
    go_wp2_with fail
    go_meet
    exact ⟨congrArg Value.bool HSH.out.1, rfl⟩
  case rest =>
    obtain ⟨rfl, rfl⟩ := hcut
    obtain ⟨k, hk⟩ : ∃ k : Nat, k = h / 2 ^ s := ⟨_, rfl⟩
    have hkl : k < 18446744073709551616 := by rw [hk]; exact Nat.lt_of_le_of_lt (Nat.div_le_self _ _) b1
    have hdk := HSH.out.2.1
    rw [← hk] at hdk
    have HK := Lib.hid hk
    clear hk
    cases z
    · have hm0 : h % 2 ^ s = 0 := by have := HSH.out.2.2; simpa using this.symm
      have HM0 := Lib.hid hm0
      clear hm0
      have hor0 : ∀ k : Nat, k < 18446744073709551616 → bits .or .u64 (k : Int) 0 = ((k ||| 0 : Nat) : Int) := fun k hk => bits_or_u64_nat k 0 hk (by omega)
      have hor1 : ∀ k : Nat, k < 18446744073709551616 → bits .or .u64 (k : Int) 1 = ((k ||| 1 : Nat) : Int) := fun k hk => bits_or_u64_nat k 1 hk (by omega)
      have hpw : ((2 : Int) ^ s) = ((2 ^ s : Nat) : Int) := by simp
      have HP := Lib.hid (And.intro hpw (And.intro hor0 hor1))
      clear hor0 hor1 hpw
      by_cases hlt : mid < h2
      · obtain ⟨y, hy⟩ : ∃ y, y = (mid + 18446744073709551616 - h2) % 18446744073709551616 := ⟨_, rfl⟩
        obtain ⟨k2, hk2⟩ : ∃ k2, k2 = (h - 1) / 2 ^ s := ⟨_, rfl⟩
        have hkl2 : k2 < 18446744073709551616 := by rw [hk2]; exact Nat.lt_of_le_of_lt (Nat.div_le_self _ _) (by omega)
        have hyl : y < 18446744073709551616 := by omega
        have hw : IntKind.u64.wrap ((mid : Int) - (h2 : Int)) = (y : Int) := by rw [IntKind.wrap_u64]; omega
        have hdk2 : ((h : Int) - 1) / 2 ^ s = (k2 : Int) := by rw [hk2, show (h : Int) - 1 = ((h - 1 : Nat) : Int) by omega, HP.out.1, Int.natCast_ediv]
        have ho0 := HP.out.2.1 k2 hkl2
        have ho1 := HP.out.2.2 k2 hkl2
        have HY := Lib.hid (And.intro hy hk2)
        clear hy hk2 hdk
        by_cases hy1 : 1 < y
        · have hq : decide ((1 : Int) < (y : Int)) = true := by simp; omega
          have HY1 := Lib.hid hy1
          clear hy1
          go_upto_region 7 with (first
            | (go_at_call 96; (with_reducible refine C2.out.mono ?_); rintro e w2 ⟨rfl, rfl⟩)
            | (go_at_call 97; (with_reducible refine (b3_any _ _).mono ?_); rintro e w2 ⟨rfl, rfl⟩))
          go_quiet ((go_at_call 97; exact Calls.quiet_of_same (b3_any _ _)))
          go_wp2_with fail
          go_returns
          exact ⟨congrArg (fun n : Nat => Ending.returned (.int .u64 (n : Int))) (by rw [HU.out, if_neg (by rw [HM0.out]; simp), if_pos hlt, ← HY.out.1, if_pos HY1.out, HY.out.2]), below_drewN (Below.refl _ _) _⟩
        · have hq : decide ((1 : Int) < (y : Int)) = false := by simp; omega
          have HY1 := Lib.hid hy1
          clear hy1
          go_upto_region 7 with (first
            | (go_at_call 96; (with_reducible refine C2.out.mono ?_); rintro e w2 ⟨rfl, rfl⟩)
            | (go_at_call 97; (with_reducible refine (b3_any _ _).mono ?_); rintro e w2 ⟨rfl, rfl⟩))
          go_quiet ((go_at_call 97; exact Calls.quiet_of_same (b3_any _ _)))
          go_wp2_with fail
          go_returns
          exact ⟨congrArg (fun n : Nat => Ending.returned (.int .u64 (n : Int))) (by rw [HU.out, if_neg (by rw [HM0.out]; simp), if_pos hlt, ← HY.out.1, if_neg HY1.out, HY.out.2, Nat.or_zero]), below_drewN (Below.refl _ _) _⟩
      · obtain ⟨y, hy⟩ : ∃ y, y = mid - h2 := ⟨_, rfl⟩
        have hyl : y < 18446744073709551616 := by omega
        have hw : IntKind.u64.wrap ((mid : Int) - (h2 : Int)) = (y : Int) := by rw [IntKind.wrap_u64]; omega
        have hw2 : (mid : Int) - (h2 : Int) = (y : Int) := by omega
        have hw3 : IntKind.u64.wrap (y : Int) = (y : Int) := by rw [IntKind.wrap_u64]; omega
        have ho0 := HP.out.2.1 k hkl
        have ho1 := HP.out.2.2 k hkl
        have HY := Lib.hid hy
        clear hy
        by_cases hy1 : 1 < y
        · have hq : decide ((1 : Int) < (y : Int)) = true := by simp; omega
          have HY1 := Lib.hid hy1
          clear hy1
          go_upto_region 7 with (first
            | (go_at_call 96; (with_reducible refine C2.out.mono ?_); rintro e w2 ⟨rfl, rfl⟩)
            | (go_at_call 97; (with_reducible refine (b3_any _ _).mono ?_); rintro e w2 ⟨rfl, rfl⟩))
          go_quiet ((go_at_call 97; exact Calls.quiet_of_same (b3_any _ _)))
          go_wp2_with fail
          go_returns
          exact ⟨congrArg (fun n : Nat => Ending.returned (.int .u64 (n : Int))) (by rw [HU.out, if_neg (by rw [HM0.out]; simp), if_neg hlt, ← HY.out, if_pos HY1.out, HK.out]), below_drewN (Below.refl _ _) _⟩
        · have hq : decide ((1 : Int) < (y : Int)) = false := by simp; omega
          have HY1 := Lib.hid hy1
          clear hy1
          go_upto_region 7 with (first
            | (go_at_call 96; (with_reducible refine C2.out.mono ?_); rintro e w2 ⟨rfl, rfl⟩)
            | (go_at_call 97; (with_reducible refine (b3_any _ _).mono ?_); rintro e w2 ⟨rfl, rfl⟩))
          go_quiet ((go_at_call 97; exact Calls.quiet_of_same (b3_any _ _)))
          go_wp2_with fail
          go_returns
          exact ⟨congrArg (fun n : Nat => Ending.returned (.int .u64 (n : Int))) (by rw [HU.out, if_neg (by rw [HM0.out]; simp), if_neg hlt, ← HY.out, if_neg HY1.out, HK.out, Nat.or_zero]), below_drewN (Below.refl _ _) _⟩
    · have hm0 : h % 2 ^ s ≠ 0 := by have := HSH.out.2.2; simpa using this.symm
      have ho : bits .or .u64 (k : Int) 1 = ((k ||| 1 : Nat) : Int) := bits_or_u64_nat k 1 hkl (by omega)
      have HM0 := Lib.hid hm0
      clear hm0
      go_wp2_with fail
      go_returns
      exact ⟨congrArg (fun n : Nat => Ending.returned (.int .u64 (n : Int))) (by rw [HU.out, if_pos HM0.out, HK.out]), Below.refl _ _⟩
end Go.Proofs.YtnfddblpenninaaDoor
