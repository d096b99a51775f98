/- Two numbers with powers compared; whether one is even. -/
import Derived.Test.YtnfddblpenninaaDoorFixE
namespace Go.Proofs.YtnfddblpenninaaDoor
open Go.RowKit

/-- d times 10 to the e against m times 2 to the k. -/
def sideN (d : Nat) (e : Int) (m : Nat) (k : Int) : Int := cmpN (d * 10 ^ e.toNat * 2 ^ (-k).toNat) (m * 10 ^ (-e).toNat * 2 ^ k.toNat)
theorem two_words (w : World) (m : Nat) (hm : m < 18446744073709551616) : NatAt (w.alloc (.cells #[.int .u32 ((m : Int) % 4294967296), .int .u32 ((m : Int) / 4294967296)] 40)) (some ⟨w.heap.size, 0, none⟩) [m % 4294967296, m / 4294967296] := by
  have hw := Whole.new w 40 #[.int .u32 ((m : Int) % 4294967296), .int .u32 ((m : Int) / 4294967296)]
  refine ⟨?_, fun i hi => ⟨_, rfl, hw.lt, ?_⟩⟩
  · intro x hx
    simp only [List.mem_cons, List.not_mem_nil, or_false] at hx
    rcases hx with rfl | rfl <;> omega
  · rw [hw.cell]
    rcases i with _ | _ | i
    · simp [wordV]
    · simp [wordV]
    · simp at hi
      omega
theorem two_val (m : Nat) : wval [m % 4294967296, m / 4294967296] = m := by
  simp only [wval]
  omega

theorem shifted_int (p : Option Addr) (cp : Nat) (xs : List Nat) (n : Int) (w : World) (h : NatAt w p xs) (l : Nat) (hl : xs.length = l) (hl1 : l ≤ 3000) (hcp : l ≤ cp) (h0 : 0 ≤ n) (hn : n ≤ 1500) :
    Calls Tryd.prog 29 #[.slice p l cp, .int .i64 n] w (NEnd w (wval xs * 2 ^ n.toNat) (l + 1501)) := by
  obtain ⟨k, rfl⟩ := Int.eq_ofNat_of_zero_le h0
  refine (shifted_walk p cp xs k w h l hl hl1 hcp (by omega)).mono ?_
  rintro e w' ⟨q, c, ys, h1, h2, h3, h4, h5⟩
  exact ⟨q, c, ys, h1, h2, h3, by omega, h5⟩
theorem tens_int (p : Option Addr) (cp : Nat) (xs : List Nat) (n : Int) (w : World) (h : NatAt w p xs) (l : Nat) (hl : xs.length = l) (hl1 : l ≤ 3000) (hcp : l ≤ cp) (h0 : 0 ≤ n) (hn : n ≤ 1000) :
    Calls Tryd.prog 28 #[.slice p l cp, .int .i64 n] w (NEnd w (wval xs * 10 ^ n.toNat) (l + 1001)) := by
  obtain ⟨k, rfl⟩ := Int.eq_ofNat_of_zero_le h0
  refine (tens_walk p cp xs k w h l hl hl1 hcp (by omega)).mono ?_
  rintro e w' ⟨q, c, ys, h1, h2, h3, h4, h5⟩
  exact ⟨q, c, ys, h1, h2, h3, by omega, h5⟩

set_option maxRecDepth 100000 in
set_option maxHeartbeats 4000000 in
theorem side_walk (p : Option Addr) (cp l : Nat) (xs : List Nat) (e k : Int) (m : Nat) (w : World) (h : NatAt w p xs) (hl : xs.length = l) (hl1 : l ≤ 500) (hcp : l ≤ cp) (hm : m < 18446744073709551616) (he1 : -1000 ≤ e) (he2 : e ≤ 1000) (hk1 : -1500 ≤ k) (hk2 : k ≤ 1500) :
    Calls Tryd.prog 17 #[.slice p l cp, .int .i64 e, .int .u64 (m : Int), .int .i64 k] w fun e' w' => e' = .returned (.int .i64 (sideN (wval xs) e m k)) ∧ Below w.heap.size w w' := by
  have hsh : (m : Int) / 4294967296 < 4294967296 := by omega
  have hy := two_words w m hm
  have HY := Lib.hid hy
  have HX := Lib.hid (And.intro (h.below ((Below.refl w.heap.size w).alloc (Nat.le_refl _) (.cells #[.int .u32 ((m : Int) % 4294967296), .int .u32 ((m : Int) / 4294967296)] 40))) hl)
  have HM := Lib.hid hm
  clear hy h hl hm
  rcases Int.lt_or_le e 0 with he0 | he0
  · rcases Int.lt_or_le k 0 with hk0 | hk0
    · have hde : decide ((0 : Int) ≤ e) = false := by simp; omega
      have HE0 := Lib.hid he0
      clear he0
      have hdk : decide ((0 : Int) ≤ k) = false := by simp; omega
      have HK0 := Lib.hid hk0
      clear hk0
      go_enter Tryd.func17, Tryd.ntmps17
      go_wp2_with (first
        | (go_at_call 28; refine (tens_int (some ⟨w.heap.size, 0, none⟩) 2 [m % 4294967296, m / 4294967296] (-e) _ HY.out 2 rfl (by omega) (Nat.le_refl 2) (by have := HE0.out; omega) (by omega)).mono ?_; rintro e1 w2 ⟨q2, c2, zs, rfl, h1, h2, h3, h4⟩; have H2 := Lib.hid (And.intro h1 (And.intro h2 (And.intro h3 h4))); clear h1 h2 h3 h4)
        | (go_at_call 29; refine (shifted_int p cp xs (-k) _ (HX.out.1.below H2.out.2.2.2) l HX.out.2 (by omega) hcp (by have := HK0.out; omega) (by omega)).mono ?_; rintro e2 w3 ⟨q3, c3, us, rfl, h1, h2, h3, h4⟩; have H3 := Lib.hid (And.intro h1 (And.intro h2 (And.intro h3 h4))); clear h1 h2 h3 h4)
        | (go_at_call 15; refine (order_walk q3 q2 c3 c2 us.length zs.length us zs _ H3.out.1.1 (H2.out.1.1.below H3.out.2.2.2) rfl rfl (by have := H3.out.2.2.1; have := H2.out.2.2.1; omega) (by have := H3.out.2.2.1; have := H2.out.2.2.1; omega) H3.out.1.2 H2.out.1.2).mono ?_; rintro e3 w4 ⟨rfl, h4⟩; have H4 := Lib.hid h4; clear h4))
      go_returns
      have e2 := H2.out.2.1
      have e3 := H3.out.2.1
      refine ⟨?_, below_next (below_next (below_next ((Below.refl w.heap.size w).alloc (Nat.le_refl _) _) H2.out.2.2.2) H3.out.2.2.2) H4.out⟩
      have z1 : e.toNat = 0 := by have := HE0.out; omega
      have z2 : k.toNat = 0 := by have := HK0.out; omega
      show Ending.returned (.int .i64 (cmpN _ _)) = .returned (.int .i64 (sideN _ _ _ _))
      rw [sideN, e3, e2, z1, z2]
      simp only [two_val, Nat.pow_zero, Nat.mul_one]
    · have hde : decide ((0 : Int) ≤ e) = false := by simp; omega
      have HE0 := Lib.hid he0
      clear he0
      go_enter Tryd.func17, Tryd.ntmps17
      go_wp2_with (first
        | (go_at_call 28; refine (tens_int (some ⟨w.heap.size, 0, none⟩) 2 [m % 4294967296, m / 4294967296] (-e) _ HY.out 2 rfl (by omega) (Nat.le_refl 2) (by have := HE0.out; omega) (by omega)).mono ?_; rintro e1 w2 ⟨q2, c2, zs, rfl, h1, h2, h3, h4⟩; have H2 := Lib.hid (And.intro h1 (And.intro h2 (And.intro h3 h4))); clear h1 h2 h3 h4)
        | (go_at_call 29; refine (shifted_int q2 c2 zs k _ H2.out.1.1 zs.length rfl (by have := H2.out.2.2.1; omega) H2.out.1.2 (by omega) (by omega)).mono ?_; rintro e2 w3 ⟨q3, c3, us, rfl, h1, h2, h3, h4⟩; have H3 := Lib.hid (And.intro h1 (And.intro h2 (And.intro h3 h4))); clear h1 h2 h3 h4)
        | (go_at_call 15; refine (order_walk p q3 cp c3 l us.length xs us _ ((HX.out.1.below H2.out.2.2.2).below H3.out.2.2.2) H3.out.1.1 HX.out.2 rfl (by have := H3.out.2.2.1; have := H2.out.2.2.1; omega) (by have := H3.out.2.2.1; have := H2.out.2.2.1; omega) hcp H3.out.1.2).mono ?_; rintro e3 w4 ⟨rfl, h4⟩; have H4 := Lib.hid h4; clear h4))
      go_returns
      have e2 := H2.out.2.1
      have e3 := H3.out.2.1
      refine ⟨?_, below_next (below_next (below_next ((Below.refl w.heap.size w).alloc (Nat.le_refl _) _) H2.out.2.2.2) H3.out.2.2.2) H4.out⟩
      have z1 : e.toNat = 0 := by have := HE0.out; omega
      have z2 : (-k).toNat = 0 := by omega
      show Ending.returned (.int .i64 (cmpN _ _)) = .returned (.int .i64 (sideN _ _ _ _))
      rw [sideN, e3, e2, z1, z2]
      simp only [two_val, Nat.pow_zero, Nat.mul_one]
  · rcases Int.lt_or_le k 0 with hk0 | hk0
    · have hdk : decide ((0 : Int) ≤ k) = false := by simp; omega
      have HK0 := Lib.hid hk0
      clear hk0
      go_enter Tryd.func17, Tryd.ntmps17
      go_wp2_with (first
        | (go_at_call 28; refine (tens_int p cp xs e _ HX.out.1 l HX.out.2 (by omega) hcp he0 he2).mono ?_; rintro e1 w2 ⟨q2, c2, zs, rfl, h1, h2, h3, h4⟩; have H2 := Lib.hid (And.intro h1 (And.intro h2 (And.intro h3 h4))); clear h1 h2 h3 h4)
        | (go_at_call 29; refine (shifted_int q2 c2 zs (-k) _ H2.out.1.1 zs.length rfl (by have := H2.out.2.2.1; omega) H2.out.1.2 (by have := HK0.out; omega) (by omega)).mono ?_; rintro e2 w3 ⟨q3, c3, us, rfl, h1, h2, h3, h4⟩; have H3 := Lib.hid (And.intro h1 (And.intro h2 (And.intro h3 h4))); clear h1 h2 h3 h4)
        | (go_at_call 15; refine (order_walk q3 (some ⟨w.heap.size, 0, none⟩) c3 2 us.length 2 us [m % 4294967296, m / 4294967296] _ H3.out.1.1 ((HY.out.below H2.out.2.2.2).below H3.out.2.2.2) rfl rfl (by have := H3.out.2.2.1; have := H2.out.2.2.1; omega) (by have := H3.out.2.2.1; have := H2.out.2.2.1; omega) H3.out.1.2 (Nat.le_refl 2)).mono ?_; rintro e3 w4 ⟨rfl, h4⟩; have H4 := Lib.hid h4; clear h4))
      go_returns
      have e2 := H2.out.2.1
      have e3 := H3.out.2.1
      refine ⟨?_, below_next (below_next (below_next ((Below.refl w.heap.size w).alloc (Nat.le_refl _) _) H2.out.2.2.2) H3.out.2.2.2) H4.out⟩
      have z1 : (-e).toNat = 0 := by omega
      have z2 : k.toNat = 0 := by have := HK0.out; omega
      show Ending.returned (.int .i64 (cmpN _ _)) = .returned (.int .i64 (sideN _ _ _ _))
      rw [sideN, e3, e2, z1, z2]
      simp only [two_val, Nat.pow_zero, Nat.mul_one]
    · go_enter Tryd.func17, Tryd.ntmps17
      go_wp2_with (first
        | (go_at_call 28; refine (tens_int p cp xs e _ HX.out.1 l HX.out.2 (by omega) hcp he0 he2).mono ?_; rintro e1 w2 ⟨q2, c2, zs, rfl, h1, h2, h3, h4⟩; have H2 := Lib.hid (And.intro h1 (And.intro h2 (And.intro h3 h4))); clear h1 h2 h3 h4)
        | (go_at_call 29; refine (shifted_int (some ⟨w.heap.size, 0, none⟩) 2 [m % 4294967296, m / 4294967296] k _ (HY.out.below H2.out.2.2.2) 2 rfl (by omega) (Nat.le_refl 2) (by omega) (by omega)).mono ?_; rintro e2 w3 ⟨q3, c3, us, rfl, h1, h2, h3, h4⟩; have H3 := Lib.hid (And.intro h1 (And.intro h2 (And.intro h3 h4))); clear h1 h2 h3 h4)
        | (go_at_call 15; refine (order_walk q2 q3 c2 c3 zs.length us.length zs us _ (H2.out.1.1.below H3.out.2.2.2) H3.out.1.1 rfl rfl (by have := H3.out.2.2.1; have := H2.out.2.2.1; omega) (by have := H3.out.2.2.1; have := H2.out.2.2.1; omega) H2.out.1.2 H3.out.1.2).mono ?_; rintro e3 w4 ⟨rfl, h4⟩; have H4 := Lib.hid h4; clear h4))
      go_returns
      have e2 := H2.out.2.1
      have e3 := H3.out.2.1
      refine ⟨?_, below_next (below_next (below_next ((Below.refl w.heap.size w).alloc (Nat.le_refl _) _) H2.out.2.2.2) H3.out.2.2.2) H4.out⟩
      have z1 : (-e).toNat = 0 := by omega
      have z2 : (-k).toNat = 0 := by omega
      show Ending.returned (.int .i64 (cmpN _ _)) = .returned (.int .i64 (sideN _ _ _ _))
      rw [sideN, e3, e2, z1, z2]
      simp only [two_val, Nat.pow_zero, Nat.mul_one]
#print axioms side_walk
end Go.Proofs.YtnfddblpenninaaDoor
