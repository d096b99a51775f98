/- Package time's calendar: the walks. -/
import Derived.Test.YtggebombeflmhaaDoorLayP
import Derived.Test.YtggebombeflmhaaDoorKeep
import Derived.Test.YtggebombeflmhaaDoorLevP
import Derived.Lib.EndianBits
import Derived.Lib.Hide
namespace Go.Proofs.YtggebombeflmhaaDoor
open Go.RowKit

theorem or3 (a : Nat) : a ||| 3 = 4 * (a / 4) + 3 := by
  have h1 : a = 2 ^ 2 * (a / 4) ||| a % 4 := by
    rw [← Nat.two_pow_add_eq_or_of_lt (by omega : a % 4 < 2 ^ 2)]
    omega
  have h2 : a % 4 ||| 3 = 3 := by
    rcases (by omega : a % 4 = 0 ∨ a % 4 = 1 ∨ a % 4 = 2 ∨ a % 4 = 3) with h | h | h | h <;> rw [h] <;> decide
  conv => lhs; rw [h1]
  rw [Nat.or_assoc, h2, ← Nat.two_pow_add_eq_or_of_lt (by decide : 3 < 2 ^ 2)]
theorem bits_or3 (v : Int) (h0 : 0 ≤ v) (h1 : v < 4294967296) : bits .or .u32 v 3 = 4 * (v / 4) + 3 := by
  obtain ⟨a, rfl⟩ := Int.eq_ofNat_of_zero_le h0
  have := (bits_nat .u32 32 (by decide) wraps_u32 a 3 (by omega) (by decide)).2
  rw [or3] at this
  exact this
theorem bits_low16 (v : Int) (h0 : 0 ≤ v) (h1 : v < 4294967296) : bits .and .u32 v 65535 = v % 65536 :=
  bits_mask .u32 32 (by decide) wraps_u32 16 (by decide) v h0 (by omega)

theorem split_nums (n : Nat) (h : n < 1000000) : ∃ c y d : Int, c = (4 * ((n : Int) + 106751990353932) + 3) / 146097 ∧ y = 2939745 * (4 * ((4 * ((n : Int) + 106751990353932) + 3) % 146097 / 4) + 3) / 4294967296 ∧ d = 2939745 * (4 * ((4 * ((n : Int) + 106751990353932) + 3) % 146097 / 4) + 3) % 4294967296 / 2939745 / 4 ∧
    c * 100 - 292277022400 + y = (goY0 n : Nat) ∧ 2922770224 ≤ c ∧ c ≤ 2922790000 ∧ 0 ≤ y ∧ y ≤ 100 ∧ d = (goYd n : Nat) := by
  obtain ⟨c, hc⟩ : ∃ c : Int, c = (4 * ((n : Int) + 106751990353932) + 3) / 146097 := ⟨_, rfl⟩
  have e1 : (4 * ((n : Int) + 106751990353932) + 3) % 146097 = ((4 * n + 3) % 146097 : Nat) := by omega
  have e2 : 4 * ((4 * ((n : Int) + 106751990353932) + 3) % 146097 / 4) + 3 = (goCd n : Nat) := by
    rw [e1]
    unfold goCd
    omega
  have hlt : goCd n < 146100 := by unfold goCd; omega
  obtain ⟨p1, p2⟩ := go_prod hlt
  refine ⟨_, _, _, rfl, rfl, rfl, ?_⟩
  rw [e2, ← hc]
  have e3 : (2939745 * ((goCd n : Nat) : Int)) / 4294967296 = ((goCd n / 1461 : Nat) : Int) := by rw [← p1]; omega
  have e4 : (2939745 * ((goCd n : Nat) : Int)) % 4294967296 / 2939745 / 4 = ((goYd n : Nat) : Int) := by unfold goYd; rw [← p2]; omega
  rw [e3, e4]
  have hc2 : c = ((4 * n + 3) / 146097 : Nat) + 2922770224 := by omega
  unfold goY0
  refine ⟨?_, ?_, ?_, ?_, ?_, rfl⟩ <;> omega

theorem split_any (N : Int) (h0 : 0 ≤ N) (h1 : N < 1000000) (w : World) : Calls Tryd.prog 45 #[.int .u64 (N + 106751990353932)] w fun e w' => (∃ c y d : Int, e = .returned (.tuple #[.int .u64 c, .int .i64 y, .int .i64 d]) ∧ c * 100 - 292277022400 + y = (goY0 N.toNat : Nat) ∧ 2922770224 ≤ c ∧ c ≤ 2922790000 ∧ 0 ≤ y ∧ y ≤ 100 ∧ d = (goYd N.toNat : Nat)) ∧ w = w' := by
  have hb := bits_or3 ((4 * (N + 106751990353932) + 3) % 146097) (by omega) (by omega)
  go_enter Tryd.func45, Tryd.ntmps45
  go_wp2_with (first | (go_at_call 66; go_in))
  go_returns
  obtain ⟨n, rfl⟩ := Int.eq_ofNat_of_zero_le h0
  obtain ⟨c, y, d, rfl, rfl, rfl, h⟩ := split_nums n (by omega)
  exact ⟨⟨_, _, _, rfl, h⟩, rfl⟩
theorem month_any (d : Int) (h0 : 0 ≤ d) (h1 : d < 366) (w : World) : Calls Tryd.prog 46 #[.int .i64 d] w fun e w' => e = .returned (.tuple #[.int .i64 ((2141 * d + 197913) / 65536), .int .i64 (1 + (2141 * d + 197913) % 65536 / 2141)]) ∧ w = w' := by
  have hb := bits_low16 (2141 * d + 197913) (by omega) (by omega)
  go_enter Tryd.func46, Tryd.ntmps46
  go_wp2
  go_ret2
  exact ⟨rfl, rfl⟩

theorem date_any (N : Int) (h0 : 655360 ≤ N) (h1 : N < 786432) (w : World) : Calls Tryd.prog 29 #[.int .u64 (N + 106751990353932)] w fun e w' => e = .returned (.tuple #[.int .i64 (civY N.toNat : Nat), .int .i64 (civM N.toNat : Nat), .int .i64 (civD N.toNat : Nat)]) ∧ w = w' := by
  go_enter Tryd.func29, Tryd.ntmps29
  go_wp2_with fail
  refine (split_any N (by omega) (by omega) w).mono ?_
  rintro e w' ⟨⟨c, y, d, rfl, hy, hc1, hc2, hy0, hy1, hd⟩, rfl⟩
  obtain ⟨e1, e2⟩ := same_year N.toNat
  rw [e1] at hy
  rw [e2] at hd
  have hd1 := refIn_lt N.toNat
  have hm := months_at hd1
  have hY := civY_bounds (N := N.toNat) (by omega) (by omega)
  have hd0 : 0 ≤ d := by omega
  have hd366 : d < 366 := by omega
  have HM := Lib.hid (⟨hy, hd, hm, hY⟩ : _ ∧ _ ∧ _ ∧ _)
  clear hy hd hm hY hd1 e1 e2
  go_wp2_with fail
  refine (month_any d hd0 hd366 _).mono ?_
  rintro e w' ⟨rfl, rfl⟩
  obtain ⟨mm, hmm⟩ : ∃ mm : Int, mm = (2141 * d + 197913) / 65536 := ⟨_, rfl⟩
  obtain ⟨dd, hdd⟩ : ∃ dd : Int, dd = 1 + (2141 * d + 197913) % 65536 / 2141 := ⟨_, rfl⟩
  rw [← hmm, ← hdd]
  have HMM := Lib.hid (⟨hmm, hdd⟩ : _ ∧ _)
  have m0 : 0 ≤ mm := by omega
  have m1 : mm ≤ 100 := by omega
  clear hmm hdd
  rcases Int.lt_or_le d 306 with hj | hj
  · go_wp2_with (first | (go_at_call 47; go_in) | (go_at_call 48; go_in) | (go_at_call 49; go_in))
    go_returns
    obtain ⟨hy, hd, hm, hY⟩ := HM.out
    obtain ⟨hmm, hdd⟩ := HMM.out
    have hjf : janFeb (refIn N.toNat) = 0 := by unfold janFeb; rw [if_neg (by omega)]
    rw [hjf] at hm
    refine ⟨?_, rfl⟩
    have g1 : ((civY N.toNat : Nat) : Int) = c * 100 - 292277022400 + y := by unfold civY; rw [hjf]; omega
    have g2 : ((civM N.toNat : Nat) : Int) = mm := by unfold civM; omega
    have g3 : ((civD N.toNat : Nat) : Int) = dd := by unfold civD; omega
    rw [g1, g2, g3]
    rfl
  · go_wp2_with (first | (go_at_call 47; go_in) | (go_at_call 48; go_in) | (go_at_call 49; go_in))
    go_returns
    obtain ⟨hy, hd, hm, hY⟩ := HM.out
    obtain ⟨hmm, hdd⟩ := HMM.out
    have hjf : janFeb (refIn N.toNat) = 1 := by unfold janFeb; rw [if_pos (by omega)]
    rw [hjf] at hm
    refine ⟨?_, rfl⟩
    have g1 : ((civY N.toNat : Nat) : Int) = c * 100 - 292277022400 + y + 1 := by unfold civY; rw [hjf]; omega
    have g2 : ((civM N.toNat : Nat) : Int) = mm - 12 := by unfold civM; omega
    have g3 : ((civD N.toNat : Nat) : Int) = dd := by unfold civD; omega
    rw [g1, g2, g3]
    rfl
end Go.Proofs.YtggebombeflmhaaDoor
