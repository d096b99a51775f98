/- A number times powers of two and of ten. -/
import Derived.Test.YtnfddblpenninaaDoorFixB
namespace Go.Proofs.YtnfddblpenninaaDoor
open Go.RowKit

/-- A number is handed back. -/
def NEnd (w : World) (N k : Nat) (e : Ending) (w' : World) : Prop := ∃ (q : Option Addr) (c : Nat) (ys : List Nat), e = .returned (.slice q ys.length c) ∧ (NatAt w' q ys ∧ ys.length ≤ c) ∧ wval ys = N ∧ ys.length ≤ k ∧ Below w.heap.size w w'
theorem below_lower {B C : Nat} {w w' : World} (h : Below B w w') (hc : C ≤ B) : Below C w w' := ⟨h.os, h.tape, h.output, h.size, fun i hi => h.block i (Nat.lt_of_lt_of_le hi hc)⟩
theorem below_next {w0 w w' : World} (h : Below w0.heap.size w0 w) (k : Below w.heap.size w w') : Below w0.heap.size w0 w' := h.trans (below_lower k h.size)

/-- The number as it stands: what is left to be shifted. -/
def Left (w wr : World) (p : Option Addr) (ys : List Nat) (F G k c : Nat) : Prop := (NatAt wr p ys ∧ ys.length ≤ c) ∧ wval ys * F = G ∧ ys.length ≤ k ∧ Below w.heap.size w wr

set_option maxRecDepth 100000 in
set_option maxHeartbeats 4000000 in
theorem shifted_walk (p : Option Addr) (cp : Nat) (xs : List Nat) (n : Nat) (w : World) (h : NatAt w p xs) (l : Nat) (hl : xs.length = l) (hl1 : l ≤ 3000) (hcp : l ≤ cp) (hn : n ≤ 3000) :
    Calls Tryd.prog 29 #[.slice p l cp, .int .i64 (n : Int)] w (NEnd w (wval xs * 2 ^ n) (l + n + 1)) := by
  have HH := Lib.hid (And.intro h (And.intro hl hcp))
  clear h hl hcp
  go_enter Tryd.func29, Tryd.ntmps29
  go_wp2_with fail
  go_loopw [0, 1] (fun vx vn wr => ∃ (m : Nat) (q : Option Addr) (c k : Nat) (ys : List Nat), vn = .int .i64 m ∧ vx = .slice q k c ∧ m ≤ n ∧ Hid (ys.length = k ∧ Left w wr q ys (2 ^ m) (wval xs * 2 ^ n) (l + (n - m)) c)) (fun _ vn _ => (intOf vn).toNat)
  case atStart => exact ⟨n, p, cp, l, xs, rfl, rfl, Nat.le_refl _, Lib.hid ⟨HH.out.2.1, ⟨HH.out.1, by rw [HH.out.2.1]; exact HH.out.2.2⟩, rfl, by rw [HH.out.2.1]; omega, Below.refl _ _⟩⟩
  case round =>
    obtain ⟨m, q, c, k, ys, rfl, rfl, hm, hM⟩ := hrel
    by_cases hm31 : 31 ≤ m
    · have hk : k ≤ 10000 := by have := hM.out.2.2.2.1; rw [hM.out.1] at this; omega
      have c14 : Calls Tryd.prog 14 #[.slice q k c, .int .u32 2147483648, .int .u32 0] wr _ := times_walk q c ys 2147483648 0 wr hM.out.2.1.1 k hM.out.1 hk (by omega) (by omega)
      have C14 := Lib.hid c14
      clear c14
      go_wp2_with (first | (go_at_call 14; refine C14.out.mono ?_; rintro e w2 ⟨q2, c2, zs, rfl, h1, h2, h3, h4⟩; have H2 := Lib.hid (And.intro h1 (And.intro h2 (And.intro h3 h4))); clear h1 h2 h3 h4))
      have h2 := H2.out
      have hpow : 2147483648 * 2 ^ (m - 31) = 2 ^ m := by rw [show (2147483648 : Nat) = 2 ^ 31 from rfl, ← Nat.pow_add]; congr 1; omega
      have hv : wval zs * 2 ^ (m - 31) = wval xs * 2 ^ n := by rw [h2.2.1, Nat.add_zero, Nat.mul_assoc, hpow]; exact hM.out.2.2.1
      have hlk := hM.out.2.2.2.1
      rw [hM.out.1] at hlk
      exact ⟨⟨m - 31, q2, c2, zs.length, zs, by go_num, rfl, by omega, Lib.hid ⟨rfl, h2.1, hv, by omega, below_next hM.out.2.2.2.2 h2.2.2.2⟩⟩, by simp [intOf]; omega⟩
    · have hk : k ≤ 10000 := by have := hM.out.2.2.2.1; rw [hM.out.1] at this; omega
      have hp31 : 2 ^ m < 2 ^ 31 := Nat.pow_lt_pow_right (by decide) (by omega)
      have hp32 : 2 ^ m < 4294967296 := Nat.lt_trans hp31 (by decide)
      have hi : ((2 : Int) ^ m % 4294967296) = ((2 ^ m : Nat) : Int) := by
        have : ((2 ^ m : Nat) : Int) = (2 : Int) ^ m := by simp
        rw [← this]
        exact Int.emod_eq_of_lt (Int.natCast_nonneg _) (Int.ofNat_lt.2 hp32)
      have c14 := times_walk q c ys (2 ^ m) 0 wr hM.out.2.1.1 k hM.out.1 hk hp32 (by omega)
      rw [← hi] at c14
      have C14 := Lib.hid c14
      clear c14 hp31 hp32 hi
      go_wp2_with (first | (go_at_call 14; refine C14.out.mono ?_; rintro e w2 ⟨q2, c2, zs, rfl, h1, h2, h3, h4⟩; have H2 := Lib.hid (And.intro h1 (And.intro h2 (And.intro h3 h4))); clear h1 h2 h3 h4))
      go_returns
      have h2 := H2.out
      have hlk := hM.out.2.2.2.1
      rw [hM.out.1] at hlk
      exact ⟨q2, c2, zs, rfl, h2.1, by rw [h2.2.1, Nat.add_zero]; exact hM.out.2.2.1, by omega, below_next hM.out.2.2.2.2 h2.2.2.2⟩
#print axioms shifted_walk

set_option maxRecDepth 100000 in
set_option maxHeartbeats 4000000 in
theorem tens_walk (p : Option Addr) (cp : Nat) (xs : List Nat) (n : Nat) (w : World) (h : NatAt w p xs) (l : Nat) (hl : xs.length = l) (hl1 : l ≤ 3000) (hcp : l ≤ cp) (hn : n ≤ 3000) :
    Calls Tryd.prog 28 #[.slice p l cp, .int .i64 (n : Int)] w (NEnd w (wval xs * 10 ^ n) (l + n + 1)) := by
  have HH := Lib.hid (And.intro h (And.intro hl hcp))
  clear h hl hcp
  go_enter Tryd.func28, Tryd.ntmps28
  go_wp2_with fail
  go_loopw [0, 1] (fun vx vn wr => ∃ (m : Nat) (q : Option Addr) (c k : Nat) (ys : List Nat), vn = .int .i64 m ∧ vx = .slice q k c ∧ m ≤ n ∧ Hid (ys.length = k ∧ Left w wr q ys (10 ^ m) (wval xs * 10 ^ n) (l + (n - m)) c)) (fun _ vn _ => (intOf vn).toNat)
  case atStart => exact ⟨n, p, cp, l, xs, rfl, rfl, Nat.le_refl _, Lib.hid ⟨HH.out.2.1, ⟨HH.out.1, by rw [HH.out.2.1]; exact HH.out.2.2⟩, rfl, by rw [HH.out.2.1]; omega, Below.refl _ _⟩⟩
  case round =>
    obtain ⟨m, q, c, k, ys, rfl, rfl, hm, hM⟩ := hrel
    by_cases hm31 : 9 ≤ m
    · have hk : k ≤ 10000 := by have := hM.out.2.2.2.1; rw [hM.out.1] at this; omega
      have c14 : Calls Tryd.prog 14 #[.slice q k c, .int .u32 1000000000, .int .u32 0] wr _ := times_walk q c ys 1000000000 0 wr hM.out.2.1.1 k hM.out.1 hk (by omega) (by omega)
      have C14 := Lib.hid c14
      clear c14
      go_wp2_with (first | (go_at_call 14; refine C14.out.mono ?_; rintro e w2 ⟨q2, c2, zs, rfl, h1, h2, h3, h4⟩; have H2 := Lib.hid (And.intro h1 (And.intro h2 (And.intro h3 h4))); clear h1 h2 h3 h4))
      have h2 := H2.out
      have hpow : 1000000000 * 10 ^ (m - 9) = 10 ^ m := by rw [show (1000000000 : Nat) = 10 ^ 9 from rfl, ← Nat.pow_add]; congr 1; omega
      have hv : wval zs * 10 ^ (m - 9) = wval xs * 10 ^ n := by rw [h2.2.1, Nat.add_zero, Nat.mul_assoc, hpow]; exact hM.out.2.2.1
      have hlk := hM.out.2.2.2.1
      rw [hM.out.1] at hlk
      exact ⟨⟨m - 9, q2, c2, zs.length, zs, by go_num, rfl, by omega, Lib.hid ⟨rfl, h2.1, hv, by omega, below_next hM.out.2.2.2.2 h2.2.2.2⟩⟩, by simp [intOf]; omega⟩
    · go_wp2_with fail
      go_loopw [0, 1] (fun vx vn wr => ∃ (m : Nat) (q : Option Addr) (c k : Nat) (ys : List Nat), vn = .int .i64 m ∧ vx = .slice q k c ∧ m ≤ n ∧ Hid (ys.length = k ∧ Left w wr q ys (10 ^ m) (wval xs * 10 ^ n) (l + (n - m)) c)) (fun _ vn _ => (intOf vn).toNat)
      case atStart => exact ⟨m, q, c, k, ys, rfl, rfl, hm, hM⟩
      case round =>
        clear hM hm hm31
        clear ys
        obtain ⟨m, q, c, k, ys, rfl, rfl, hm, hM⟩ := hrel
        have hk : k ≤ 10000 := by have := hM.out.2.2.2.1; rw [hM.out.1] at this; omega
        rcases Nat.eq_zero_or_pos m with rfl | hm0
        · go_wp2_with fail
          go_returns
          have h1 := hM.out.1
          subst h1
          have hlk := hM.out.2.2.2.1
          exact ⟨q, c, ys, rfl, hM.out.2.1, by have := hM.out.2.2.1; rw [Nat.pow_zero, Nat.mul_one] at this; exact this, by omega, hM.out.2.2.2.2⟩
        · have c14 : Calls Tryd.prog 14 #[.slice q k c, .int .u32 10, .int .u32 0] wr _ := times_walk q c ys 10 0 wr hM.out.2.1.1 k hM.out.1 hk (by omega) (by omega)
          have C14 := Lib.hid c14
          clear c14
          go_wp2_with (first | (go_at_call 14; refine C14.out.mono ?_; rintro e w2 ⟨q2, c2, zs, rfl, h1, h2, h3, h4⟩; have H2 := Lib.hid (And.intro h1 (And.intro h2 (And.intro h3 h4))); clear h1 h2 h3 h4))
          have h2 := H2.out
          have hpow : 10 * 10 ^ (m - 1) = 10 ^ m := by rw [Nat.mul_comm, ← Nat.pow_succ]; congr 1; omega
          have hv : wval zs * 10 ^ (m - 1) = wval xs * 10 ^ n := by rw [h2.2.1, Nat.add_zero, Nat.mul_assoc, hpow]; exact hM.out.2.2.1
          have hlk := hM.out.2.2.2.1
          rw [hM.out.1] at hlk
          exact ⟨⟨m - 1, q2, c2, zs.length, zs, by go_num, rfl, by omega, Lib.hid ⟨rfl, h2.1, hv, by omega, below_next hM.out.2.2.2.2 h2.2.2.2⟩⟩, by simp [intOf]; omega⟩
#print axioms tens_walk
end Go.Proofs.YtnfddblpenninaaDoor
