/- What a float written in as few digits as may be is: the words for it. -/
import Derived.Test.YtnfddblpenninaaDoorShoL
import Derived.Test.YtnfddblpenninaaDoorShoK
import Derived.Test.YtnfddblpenninaaDoorGixC
namespace Go.Proofs.YtnfddblpenninaaDoor
open Go.RowKit

/-- The digits are as few as may be. -/
def ShortDs (mant : Nat) (k least : Int) (top : Nat) (ds : List UInt8) (dp : Int) : Prop :=
  ∃ (d N : Nat) (P : Int), (1 ≤ d ∧ Few mant k least top d P) ∧ IsDig ds ∧ (0 < ds.length ∧ ds.length ≤ N ∧ N ≤ 17) ∧ numL ds * 10 ^ (N - ds.length) = d ∧ dp = N + P ∧ -400 ≤ P ∧ P ≤ 349
/-- The text by its form. -/
def textS (c : Nat) (neg : Bool) (ds : List UInt8) (dp : Int) : List UInt8 := if c = 101 then textE neg ds dp else textF neg ds dp (ds.length - dp).toNat
/-- Such a text is handed back. -/
def ShortEnd (w : World) (neg : Bool) (mant : Nat) (k least : Int) (top c : Nat) (e : Ending) (w' : World) : Prop :=
  ∃ (v : Value) (ds : List UInt8) (dp : Int), e = .returned v ∧ Out w' w.heap.size v (textS c neg ds dp) ∧ ShortDs mant k least top ds dp ∧ Below w.heap.size w w'
theorem few_bounds {mant : Nat} {k least : Int} {top d : Nat} {P : Int} (h : Few mant k least top d P) : -400 ≤ P ∧ P ≤ 349 := by
  obtain ⟨p, j, lo, hi, ⟨h1, h2⟩, _⟩ := h
  omega
/-- A number moved up to 64 bits. -/
theorem norm_any (m : Nat) (h1 : 1 ≤ m) (h2 : m < 18446744073709551616) : ∃ z, Lib.bitLen m = 64 - z ∧ 9223372036854775808 ≤ m * 2 ^ z ∧ m * 2 ^ z < 18446744073709551616 ∧ z ≤ 63 := by
  obtain ⟨g1, g2, g3⟩ := Lib.bitLenAux_bounds 64 m h2 (by omega)
  have e : Lib.bitLenAux 64 m = Lib.bitLen m := rfl
  rw [e] at g1 g2 g3
  have hL : Lib.bitLen m ≤ 64 := by
    refine Nat.le_of_not_lt fun h => ?_
    have := Nat.pow_le_pow_right (by decide : 0 < 2) (by omega : 64 ≤ Lib.bitLen m - 1)
    have h5 : (2 : Nat) ^ 64 = 18446744073709551616 := by decide
    omega
  obtain ⟨L, hLL⟩ : ∃ L, L = Lib.bitLen m := ⟨_, rfl⟩
  rw [← hLL] at g1 g2 g3 hL ⊢
  refine ⟨64 - L, by omega, ?_, ?_, by omega⟩
  · have : 2 ^ (L - 1) * 2 ^ (64 - L) = 9223372036854775808 := by rw [← Nat.pow_add, show L - 1 + (64 - L) = 63 by omega]
    rw [← this]
    exact Nat.mul_le_mul_right _ g2
  · have : 2 ^ L * 2 ^ (64 - L) = 18446744073709551616 := by rw [← Nat.pow_add, show L + (64 - L) = 64 by omega]
    rw [← this]
    exact Nat.mul_lt_mul_of_pos_right g3 (Nat.pow_pos (by decide))
/-- The parts of a float of 32 bits. -/
def expS (b : Nat) : Nat := b / 8388608 % 256
def fracS (b : Nat) : Nat := b % 8388608
def manS (b : Nat) : Nat := if expS b = 0 then fracS b else fracS b + 8388608
def powS (b : Nat) : Int := if expS b = 0 then -149 else (expS b : Int) - 150
theorem manS_lt (b : Nat) : manS b < 16777216 := by
  unfold manS fracS
  split <;> omega
theorem sbits32_run (b : Nat) (w : World) : Sem.run Tryd.prog (callFunc 53 #[.float .f32 b]) w = .ok (.value (.int .u32 (b : Int))) w := by
  kernel_rfl
set_option maxRecDepth 100000 in
theorem efg0_walk (neg : Bool) (w : World) : Calls Tryd.prog 57 #[.slice none 0 0, .bool neg, .slice none 0 0, .int .i64 0, .int .i64 0, .int .i64 (-1), .int .u8 102, .bool true] w (TextEnd w (sgnF neg ++ [48])) := by
  have hO := Out.nil w w.heap.size
  have HO := Lib.hid hO
  clear hO
  cases neg
  · go_enter Tryd.func57, Tryd.ntmps57
    go_wp2_with (first | (at_builtin; refine wpList_put (base := w.heap.size) rfl _ _ rfl rfl _ [] 48 ⟨w.heap.size, 0, none⟩ rfl rfl (HO.out.alloc _) (by simp) (by simp) (new_byte w _ _ rfl) ?_; intro v2 w2 hO2 hB2; have H2 := Lib.hid (And.intro hO2 hB2); clear hO2 hB2))
    go_returns
    exact ⟨_, rfl, H2.out.1, ((Below.refl w.heap.size w).alloc (Nat.le_refl _) _).trans H2.out.2⟩
  · go_enter Tryd.func57, Tryd.ntmps57
    go_upto_if 183 with (first | (at_builtin; refine wpList_put (base := w.heap.size) rfl _ _ rfl rfl _ [] 45 ⟨w.heap.size, 0, none⟩ rfl rfl (HO.out.alloc _) (by simp) (by simp) (new_byte w _ _ rfl) ?_; intro v2 w2 hO2 hB2; have H2 := Lib.hid (And.intro hO2 (((Below.refl w.heap.size w).alloc (Nat.le_refl _) (.cells #[.int .u8 45] 5)).trans hB2)); clear hO2 hB2))
    go_wp2_with (first | (at_builtin; refine wpList_put (base := w.heap.size) rfl _ _ rfl rfl _ [45] 48 ⟨w2.heap.size, 0, none⟩ rfl rfl (H2.out.1.alloc _) (by have := H2.out.2.size; simp; omega) (by simp) (new_byte w2 _ _ rfl) ?_; intro v3 w3 hO3 hB3; have H3 := Lib.hid (And.intro hO3 (((H2.out.2).alloc H2.out.2.size _).trans hB3)); clear hO3 hB3))
    go_returns
    exact ⟨_, rfl, H3.out.1, H3.out.2⟩
end Go.Proofs.YtnfddblpenninaaDoor
