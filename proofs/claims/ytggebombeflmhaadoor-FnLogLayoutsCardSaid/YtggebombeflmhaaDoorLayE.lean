/- A moment, its zone, its clock: the walks. -/
import Derived.Test.YtggebombeflmhaaDoorLayD
import Derived.Test.YtggebombeflmhaaDoorMem
namespace Go.Proofs.YtggebombeflmhaaDoor
open Go.RowKit

theorem week_any (N : Int) (h0 : 0 ≤ N) (h1 : N < 1000000) (w : World) : Calls Tryd.prog 38 #[.int .u64 (N + 106751990353932)] w fun e w' => e = .returned (.int .i64 ((N + 3) % 7)) ∧ w = w' := by
  go_enter Tryd.func38, Tryd.ntmps38
  go_wp2
  go_ret
  exact ⟨ret_int (by omega), rfl⟩
theorem clock_any (D s : Int) (h0 : 0 ≤ D) (h1 : D < 106751991453932) (hs0 : 0 ≤ s) (hs1 : s < 86400) (w : World) : Calls Tryd.prog 31 #[.int .u64 (86400 * D + s)] w fun e w' => e = .returned (.tuple #[.int .i64 (s / 3600), .int .i64 (s % 3600 / 60), .int .i64 (s % 60)]) ∧ w = w' := by
  have e1 : (86400 * D + s) % 86400 = s := by omega
  go_enter Tryd.func31, Tryd.ntmps31
  go_wp2
  go_returns
  refine ⟨?_, rfl⟩
  have g1 : s % 3600 / 60 = (s - s / 3600 * 3600) / 60 := by omega
  have g2 : s % 60 = s - s / 3600 * 3600 - (s - s / 3600 * 3600) / 60 * 60 := by omega
  rw [g1, g2]
  rfl
theorem days_any (D s : Int) (h0 : 0 ≤ D) (h1 : D < 106751991453932) (hs0 : 0 ≤ s) (hs1 : s < 86400) (w : World) : Calls Tryd.prog 28 #[.int .u64 (86400 * D + s)] w fun e w' => e = .returned (.int .u64 D) ∧ w = w' := by
  go_enter Tryd.func28, Tryd.ntmps28
  go_wp2
  go_ret
  exact ⟨ret_int (by omega), rfl⟩
theorem below4 {w0 w : World} (h : Below w0.heap.size w0 w) (a b c d : Obj) : Below w0.heap.size w0 ((((w.alloc a).alloc b).alloc c).alloc d) := by
  have h1 := h.alloc h.size a
  have h2 := h1.alloc h1.size b
  have h3 := h2.alloc h2.size c
  exact h3.alloc h3.size d
/-- A time: seconds since the year 1, nanoseconds, no name of a zone, its offset. -/
def timeV (S F off : Int) : Value := .agg #[.int .i64 (S + 62135596800), .int .i32 F, .string ⟨#[]⟩, .int .i64 off]
theorem tdiv_low {S F : Int} (hF0 : 0 < F) (hF1 : F < 1000000000) (h : 1000000000 * S + F < 0) : (1000000000 * S + F).tdiv 1000000000 = S + 1 := by
  rw [show 1000000000 * S + F = -(-(1000000000 * S + F)) by omega, Int.neg_tdiv, Int.tdiv_eq_ediv_of_nonneg (by omega)]
  omega
theorem tdiv_even {S : Int} : (1000000000 * S).tdiv 1000000000 = S := by
  rw [Int.mul_comm, Int.mul_tdiv_cancel _ (by decide)]
theorem tdiv_high {S F : Int} (hF0 : 0 ≤ F) (hF1 : F < 1000000000) (h : 0 ≤ S) : (1000000000 * S + F).tdiv 1000000000 = S := by
  rw [Int.tdiv_eq_ediv_of_nonneg (by omega)]
  omega
set_option maxHeartbeats 800000 in
theorem moment_any (S F off : Int) (h0 : -4611686019 ≤ S) (h1 : S ≤ 4611686019) (hF0 : 0 ≤ F) (hF1 : F < 1000000000) (w0 w : World) (hB : Below w0.heap.size w0 w) : Calls Tryd.prog 8 #[.int .i64 (1000000000 * S + F), .int .i64 off] w fun e w' => e = .returned (timeV S F off) ∧ Below w0.heap.size w0 w' := by
  rcases Int.lt_or_le (1000000000 * S + F) 0 with hn | hn
  · rcases Int.lt_or_le 0 F with hf | hf
    · have hq := tdiv_low hf hF1 hn
      have e1 : 1000000000 * S + F - (S + 1) * 1000000000 = F - 1000000000 := by omega
      go_enter Tryd.func8, Tryd.ntmps8
      go_wp2_with (first | (go_at_call 16; go_in) | (go_at_call 17; go_in))
      go_returns
      exact ⟨rfl, below4 hB _ _ _ _⟩
    · obtain rfl : F = 0 := by omega
      have hq := tdiv_even (S := S)
      go_enter Tryd.func8, Tryd.ntmps8
      go_wp2_with (first | (go_at_call 16; go_in) | (go_at_call 17; go_in))
      go_returns
      exact ⟨by rw [show 1000000000 * S - S * 1000000000 = 0 by omega]; rfl, below4 hB _ _ _ _⟩
  · rcases Int.lt_or_le (1000000000 * S + F) 1000000000 with hg | hg
    · obtain rfl : S = 0 := by omega
      go_enter Tryd.func8, Tryd.ntmps8
      go_wp2_with (first | (go_at_call 16; go_in) | (go_at_call 17; go_in))
      go_returns
      exact ⟨rfl, below4 hB _ _ _ _⟩
    · have hq := tdiv_high (S := S) hF0 hF1 (by omega)
      go_enter Tryd.func8, Tryd.ntmps8
      go_wp2_with (first | (go_at_call 16; go_in) | (go_at_call 17; go_in))
      go_returns
      exact ⟨by rw [show 1000000000 * S + F - S * 1000000000 = F by omega]; rfl, below4 hB _ _ _ _⟩
end Go.Proofs.YtggebombeflmhaaDoor
