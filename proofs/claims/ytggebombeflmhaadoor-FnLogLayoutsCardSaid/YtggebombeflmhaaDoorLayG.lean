/- How a layout is parted: fractions of a second. -/
import Derived.Test.YtggebombeflmhaaDoorLayF
import Derived.Test.YtggebombeflmhaaDoorLayS
namespace Go.Proofs.YtggebombeflmhaaDoor
open Go.RowKit

set_option maxRecDepth 100000 in
set_option maxHeartbeats 4000000 in
theorem chunk_ms (s : ByteArray) (h : s.data.toList = [46, 48, 48, 48]) (w : World) :
    Calls Tryd.prog 35 #[.string s] w fun e w' => e = .returned (.tuple #[.string ⟨#[]⟩, .int .i64 196642, .string ⟨#[]⟩]) ∧ Below w.heap.size w w' := by
  have hz : s.size = 4 := by
    have : s.size = s.data.toList.length := by simp
    rw [this, h]
    rfl
  have hle : 4 ≤ s.size := by omega
  have hge : s.size ≤ 4 := by omega
  have i0 : ∀ W, (Instr.index 9 (.string s) (.int .i64 0)).run Tryd.prog W = .ok (.int .u8 46) W := byte_at s _ h 0 (by simp)
  have i1 : ∀ W, (Instr.index 9 (.string s) (.int .i64 1)).run Tryd.prog W = .ok (.int .u8 48) W := byte_at s _ h 1 (by simp)
  have i2 : ∀ W, (Instr.index 9 (.string s) (.int .i64 2)).run Tryd.prog W = .ok (.int .u8 48) W := byte_at s _ h 2 (by simp)
  have i3 : ∀ W, (Instr.index 9 (.string s) (.int .i64 3)).run Tryd.prog W = .ok (.int .u8 48) W := byte_at s _ h 3 (by simp)
  have t4 : ∀ W, (Instr.slice 9 (.string s) (some (.int .i64 4)) none none).run Tryd.prog W = .ok (.string ⟨#[]⟩) W := tail_at s _ h 4 (by simp)
  have s0_0 : ∀ W, (Instr.slice 9 (.string s) (some (.int .i64 0)) (some (.int .i64 0)) none).run Tryd.prog W = .ok (.string ⟨#[]⟩) W := part_at s _ h 0 0 (by decide) (by simp)
  clear h hz
  go_enter Tryd.func35, Tryd.ntmps35
  go_wp2_with fail
  refine wp_loop_rounds 1 ?_
  rw [rounds_succ]
  go_wp2_with fail
  refine wp_loop_rounds 4 ?_
  rw [rounds_succ]
  go_wp2_with fail
  rw [rounds_succ]
  go_wp2_with fail
  rw [rounds_succ]
  go_wp2_with fail
  rw [rounds_succ]
  go_wp2_with (first | (go_at_call 55; refine (digit_end s 4 hge (by decide) _).mono ?_; rintro e w' ⟨rfl, rfl⟩) | (go_at_call 32; refine (frac_code3 _).mono ?_; rintro e w' ⟨rfl, rfl⟩))
  go_quiet (fail)
  go_wp2_with fail
  go_returns
  exact ⟨rfl, below_drewN (Below.refl _ w) _⟩

set_option maxRecDepth 100000 in
set_option maxHeartbeats 4000000 in
theorem chunk_us (s : ByteArray) (h : s.data.toList = [46, 48, 48, 48, 48, 48, 48]) (w : World) :
    Calls Tryd.prog 35 #[.string s] w fun e w' => e = .returned (.tuple #[.string ⟨#[]⟩, .int .i64 393250, .string ⟨#[]⟩]) ∧ Below w.heap.size w w' := by
  have hz : s.size = 7 := by
    have : s.size = s.data.toList.length := by simp
    rw [this, h]
    rfl
  have hle : 7 ≤ s.size := by omega
  have hge : s.size ≤ 7 := by omega
  have i0 : ∀ W, (Instr.index 9 (.string s) (.int .i64 0)).run Tryd.prog W = .ok (.int .u8 46) W := byte_at s _ h 0 (by simp)
  have i1 : ∀ W, (Instr.index 9 (.string s) (.int .i64 1)).run Tryd.prog W = .ok (.int .u8 48) W := byte_at s _ h 1 (by simp)
  have i2 : ∀ W, (Instr.index 9 (.string s) (.int .i64 2)).run Tryd.prog W = .ok (.int .u8 48) W := byte_at s _ h 2 (by simp)
  have i3 : ∀ W, (Instr.index 9 (.string s) (.int .i64 3)).run Tryd.prog W = .ok (.int .u8 48) W := byte_at s _ h 3 (by simp)
  have i4 : ∀ W, (Instr.index 9 (.string s) (.int .i64 4)).run Tryd.prog W = .ok (.int .u8 48) W := byte_at s _ h 4 (by simp)
  have i5 : ∀ W, (Instr.index 9 (.string s) (.int .i64 5)).run Tryd.prog W = .ok (.int .u8 48) W := byte_at s _ h 5 (by simp)
  have i6 : ∀ W, (Instr.index 9 (.string s) (.int .i64 6)).run Tryd.prog W = .ok (.int .u8 48) W := byte_at s _ h 6 (by simp)
  have t7 : ∀ W, (Instr.slice 9 (.string s) (some (.int .i64 7)) none none).run Tryd.prog W = .ok (.string ⟨#[]⟩) W := tail_at s _ h 7 (by simp)
  have s0_0 : ∀ W, (Instr.slice 9 (.string s) (some (.int .i64 0)) (some (.int .i64 0)) none).run Tryd.prog W = .ok (.string ⟨#[]⟩) W := part_at s _ h 0 0 (by decide) (by simp)
  clear h hz
  go_enter Tryd.func35, Tryd.ntmps35
  go_wp2_with fail
  refine wp_loop_rounds 1 ?_
  rw [rounds_succ]
  go_wp2_with fail
  refine wp_loop_rounds 7 ?_
  rw [rounds_succ]
  go_wp2_with fail
  rw [rounds_succ]
  go_wp2_with fail
  rw [rounds_succ]
  go_wp2_with fail
  rw [rounds_succ]
  go_wp2_with fail
  rw [rounds_succ]
  go_wp2_with fail
  rw [rounds_succ]
  go_wp2_with fail
  rw [rounds_succ]
  go_wp2_with (first | (go_at_call 55; refine (digit_end s 7 hge (by decide) _).mono ?_; rintro e w' ⟨rfl, rfl⟩) | (go_at_call 32; refine (frac_code6 _).mono ?_; rintro e w' ⟨rfl, rfl⟩))
  go_quiet (fail)
  go_wp2_with fail
  go_returns
  exact ⟨rfl, below_drewN (Below.refl _ w) _⟩
end Go.Proofs.YtggebombeflmhaaDoor
