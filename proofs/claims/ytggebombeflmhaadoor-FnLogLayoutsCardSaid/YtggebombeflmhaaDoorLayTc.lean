/- How a layout is parted (day_e, day_c, yr, mond_l, mond_e, dayd_l, dayd_e): the walks of one step. -/
import Derived.Test.YtggebombeflmhaaDoorLayS
import Derived.Test.YtggebombeflmhaaDoorKeep
import Derived.Test.YtggebombeflmhaaDoorLayU
import Derived.Deep.DeepCutAuto
import Derived.BigQuiet
namespace Go.Proofs.YtggebombeflmhaaDoor
open Go.RowKit

set_option maxRecDepth 100000 in
set_option maxHeartbeats 4000000 in
theorem chunk_day_e (s : ByteArray) (R : List UInt8) (h : s.data.toList = [48, 50] ++ R) (h60 : s.size ≤ 60) (w : World) (tab : w.cell? ⟨0, 1, none⟩ = some (.int .i64 265)) :
    Calls Tryd.prog 35 #[.string s] w fun e w' => e = .returned (.tuple #[.string ⟨#[]⟩, .int .i64 265, .string ⟨R.toArray⟩]) ∧ Below w.heap.size w w' := by
  have hz : s.size = 2 + R.length := by
    have : s.size = s.data.toList.length := by simp
    rw [this, h]
    simp
    omega
  have hle : 2 ≤ s.size := by omega
  have i0 : ∀ W, (Instr.index 9 (.string s) (.int .i64 0)).run Tryd.prog W = .ok (.int .u8 48) W := byte_at s _ h 0 (by simp)
  have i1 : ∀ W, (Instr.index 9 (.string s) (.int .i64 1)).run Tryd.prog W = .ok (.int .u8 50) W := byte_at s _ h 1 (by simp)
  have s0_0 : ∀ W, (Instr.slice 9 (.string s) (some (.int .i64 0)) (some (.int .i64 0)) none).run Tryd.prog W = .ok (.string ⟨#[]⟩) W := part_at s _ h 0 0 (by decide) (by simp)
  have t2 : ∀ W, (Instr.slice 9 (.string s) (some (.int .i64 2)) none none).run Tryd.prog W = .ok (.string ⟨R.toArray⟩) W := tail_at s _ h 2 (by simp)
  clear h hz
  go_enter Tryd.func35, Tryd.ntmps35
  go_wp2_with fail
  refine wp_loop_rounds 1 ?_
  rw [rounds_succ]
  go_wp2_with fail
  go_quiet (fail)
  go_wp2_with fail
  go_returns
  exact ⟨rfl, below_drewN (Below.refl _ w) _⟩

set_option maxRecDepth 100000 in
set_option maxHeartbeats 4000000 in
theorem chunk_day_c (s : ByteArray) (R : List UInt8) (h : s.data.toList = [44, 32, 48, 50] ++ R) (h60 : s.size ≤ 60) (w : World) (tab : w.cell? ⟨0, 1, none⟩ = some (.int .i64 265)) :
    Calls Tryd.prog 35 #[.string s] w fun e w' => e = .returned (.tuple #[.string ⟨#[44, 32]⟩, .int .i64 265, .string ⟨R.toArray⟩]) ∧ Below w.heap.size w w' := by
  have hz : s.size = 4 + R.length := by
    have : s.size = s.data.toList.length := by simp
    rw [this, h]
    simp
    omega
  have hle : 4 ≤ s.size := by omega
  have i0 : ∀ W, (Instr.index 9 (.string s) (.int .i64 0)).run Tryd.prog W = .ok (.int .u8 44) W := byte_at s _ h 0 (by simp)
  have i1 : ∀ W, (Instr.index 9 (.string s) (.int .i64 1)).run Tryd.prog W = .ok (.int .u8 32) W := byte_at s _ h 1 (by simp)
  have i2 : ∀ W, (Instr.index 9 (.string s) (.int .i64 2)).run Tryd.prog W = .ok (.int .u8 48) W := byte_at s _ h 2 (by simp)
  have i3 : ∀ W, (Instr.index 9 (.string s) (.int .i64 3)).run Tryd.prog W = .ok (.int .u8 50) W := byte_at s _ h 3 (by simp)
  have s0_2 : ∀ W, (Instr.slice 9 (.string s) (some (.int .i64 0)) (some (.int .i64 2)) none).run Tryd.prog W = .ok (.string ⟨#[44, 32]⟩) W := part_at s _ h 0 2 (by decide) (by simp)
  have t4 : ∀ W, (Instr.slice 9 (.string s) (some (.int .i64 4)) none none).run Tryd.prog W = .ok (.string ⟨R.toArray⟩) W := tail_at s _ h 4 (by simp)
  clear h hz
  go_enter Tryd.func35, Tryd.ntmps35
  go_wp2_with fail
  refine wp_loop_rounds 3 ?_
  rw [rounds_succ]
  go_wp2_with fail
  rw [rounds_succ]
  go_wp2_with fail
  rw [rounds_succ]
  go_wp2_with fail
  go_quiet (fail)
  go_wp2_with fail
  go_returns
  exact ⟨rfl, below_drewN (Below.refl _ w) _⟩

set_option maxRecDepth 100000 in
set_option maxHeartbeats 4000000 in
theorem chunk_yr (s : ByteArray) (R : List UInt8) (h : s.data.toList = [32, 48, 54] ++ R) (h60 : s.size ≤ 60) (w : World) (tab : w.cell? ⟨0, 5, none⟩ = some (.int .i64 276)) :
    Calls Tryd.prog 35 #[.string s] w fun e w' => e = .returned (.tuple #[.string ⟨#[32]⟩, .int .i64 276, .string ⟨R.toArray⟩]) ∧ Below w.heap.size w w' := by
  have hz : s.size = 3 + R.length := by
    have : s.size = s.data.toList.length := by simp
    rw [this, h]
    simp
    omega
  have hle : 3 ≤ s.size := by omega
  have i0 : ∀ W, (Instr.index 9 (.string s) (.int .i64 0)).run Tryd.prog W = .ok (.int .u8 32) W := byte_at s _ h 0 (by simp)
  have i1 : ∀ W, (Instr.index 9 (.string s) (.int .i64 1)).run Tryd.prog W = .ok (.int .u8 48) W := byte_at s _ h 1 (by simp)
  have i2 : ∀ W, (Instr.index 9 (.string s) (.int .i64 2)).run Tryd.prog W = .ok (.int .u8 54) W := byte_at s _ h 2 (by simp)
  have s0_1 : ∀ W, (Instr.slice 9 (.string s) (some (.int .i64 0)) (some (.int .i64 1)) none).run Tryd.prog W = .ok (.string ⟨#[32]⟩) W := part_at s _ h 0 1 (by decide) (by simp)
  have t3 : ∀ W, (Instr.slice 9 (.string s) (some (.int .i64 3)) none none).run Tryd.prog W = .ok (.string ⟨R.toArray⟩) W := tail_at s _ h 3 (by simp)
  clear h hz
  go_enter Tryd.func35, Tryd.ntmps35
  go_wp2_with fail
  refine wp_loop_rounds 2 ?_
  rw [rounds_succ]
  go_wp2_with fail
  rw [rounds_succ]
  go_wp2_with fail
  go_quiet (fail)
  go_wp2_with fail
  go_returns
  exact ⟨rfl, below_drewN (Below.refl _ w) _⟩

set_option maxRecDepth 100000 in
set_option maxHeartbeats 4000000 in
theorem chunk_mond_l (s : ByteArray) (h : s.data.toList = [45, 48, 49, 45, 48, 50, 32, 49, 53, 58, 48, 52, 58, 48, 53]) (h60 : s.size ≤ 60) (w : World) (tab : w.cell? ⟨0, 0, none⟩ = some (.int .i64 260)) :
    Calls Tryd.prog 35 #[.string s] w fun e w' => e = .returned (.tuple #[.string ⟨#[45]⟩, .int .i64 260, .string ⟨#[45, 48, 50, 32, 49, 53, 58, 48, 52, 58, 48, 53]⟩]) ∧ Below w.heap.size w w' := by
  have hz : s.size = 15 := by
    have : s.size = s.data.toList.length := by simp
    rw [this, h]
    rfl
  have hle : 15 ≤ s.size := by omega
  have hge : s.size ≤ 15 := by omega
  have i0 : ∀ W, (Instr.index 9 (.string s) (.int .i64 0)).run Tryd.prog W = .ok (.int .u8 45) W := byte_at s _ h 0 (by simp)
  have i1 : ∀ W, (Instr.index 9 (.string s) (.int .i64 1)).run Tryd.prog W = .ok (.int .u8 48) W := byte_at s _ h 1 (by simp)
  have i2 : ∀ W, (Instr.index 9 (.string s) (.int .i64 2)).run Tryd.prog W = .ok (.int .u8 49) W := byte_at s _ h 2 (by simp)
  have s0_7 : ∀ W, (Instr.slice 9 (.string s) (some (.int .i64 0)) (some (.int .i64 7)) none).run Tryd.prog W = .ok (.string ⟨#[45, 48, 49, 45, 48, 50, 32]⟩) W := part_at s _ h 0 7 (by decide) (by simp)
  have s0_9 : ∀ W, (Instr.slice 9 (.string s) (some (.int .i64 0)) (some (.int .i64 9)) none).run Tryd.prog W = .ok (.string ⟨#[45, 48, 49, 45, 48, 50, 32, 49, 53]⟩) W := part_at s _ h 0 9 (by decide) (by simp)
  have s0_5 : ∀ W, (Instr.slice 9 (.string s) (some (.int .i64 0)) (some (.int .i64 5)) none).run Tryd.prog W = .ok (.string ⟨#[45, 48, 49, 45, 48]⟩) W := part_at s _ h 0 5 (by decide) (by simp)
  have s0_6 : ∀ W, (Instr.slice 9 (.string s) (some (.int .i64 0)) (some (.int .i64 6)) none).run Tryd.prog W = .ok (.string ⟨#[45, 48, 49, 45, 48, 50]⟩) W := part_at s _ h 0 6 (by decide) (by simp)
  have s0_3 : ∀ W, (Instr.slice 9 (.string s) (some (.int .i64 0)) (some (.int .i64 3)) none).run Tryd.prog W = .ok (.string ⟨#[45, 48, 49]⟩) W := part_at s _ h 0 3 (by decide) (by simp)
  have s0_1 : ∀ W, (Instr.slice 9 (.string s) (some (.int .i64 0)) (some (.int .i64 1)) none).run Tryd.prog W = .ok (.string ⟨#[45]⟩) W := part_at s _ h 0 1 (by decide) (by simp)
  have t3 : ∀ W, (Instr.slice 9 (.string s) (some (.int .i64 3)) none none).run Tryd.prog W = .ok (.string ⟨#[45, 48, 50, 32, 49, 53, 58, 48, 52, 58, 48, 53]⟩) W := tail_at s _ h 3 (by simp)
  clear h hz
  go_enter Tryd.func35, Tryd.ntmps35
  go_wp2_with fail
  refine wp_loop_rounds 2 ?_
  rw [rounds_succ]
  go_wp2_with fail
  rw [rounds_succ]
  go_wp2_with fail
  go_quiet (fail)
  go_wp2_with fail
  go_returns
  exact ⟨rfl, below_drewN (Below.refl _ w) _⟩

set_option maxRecDepth 100000 in
set_option maxHeartbeats 4000000 in
theorem chunk_mond_e (s : ByteArray) (h : s.data.toList = [45, 48, 49, 45, 48, 50]) (h60 : s.size ≤ 60) (w : World) (tab : w.cell? ⟨0, 0, none⟩ = some (.int .i64 260)) :
    Calls Tryd.prog 35 #[.string s] w fun e w' => e = .returned (.tuple #[.string ⟨#[45]⟩, .int .i64 260, .string ⟨#[45, 48, 50]⟩]) ∧ Below w.heap.size w w' := by
  have hz : s.size = 6 := by
    have : s.size = s.data.toList.length := by simp
    rw [this, h]
    rfl
  have hle : 6 ≤ s.size := by omega
  have hge : s.size ≤ 6 := by omega
  have i0 : ∀ W, (Instr.index 9 (.string s) (.int .i64 0)).run Tryd.prog W = .ok (.int .u8 45) W := byte_at s _ h 0 (by simp)
  have i1 : ∀ W, (Instr.index 9 (.string s) (.int .i64 1)).run Tryd.prog W = .ok (.int .u8 48) W := byte_at s _ h 1 (by simp)
  have i2 : ∀ W, (Instr.index 9 (.string s) (.int .i64 2)).run Tryd.prog W = .ok (.int .u8 49) W := byte_at s _ h 2 (by simp)
  have s0_5 : ∀ W, (Instr.slice 9 (.string s) (some (.int .i64 0)) (some (.int .i64 5)) none).run Tryd.prog W = .ok (.string ⟨#[45, 48, 49, 45, 48]⟩) W := part_at s _ h 0 5 (by decide) (by simp)
  have s0_6 : ∀ W, (Instr.slice 9 (.string s) (some (.int .i64 0)) (some (.int .i64 6)) none).run Tryd.prog W = .ok (.string ⟨#[45, 48, 49, 45, 48, 50]⟩) W := part_at s _ h 0 6 (by decide) (by simp)
  have s0_3 : ∀ W, (Instr.slice 9 (.string s) (some (.int .i64 0)) (some (.int .i64 3)) none).run Tryd.prog W = .ok (.string ⟨#[45, 48, 49]⟩) W := part_at s _ h 0 3 (by decide) (by simp)
  have s0_1 : ∀ W, (Instr.slice 9 (.string s) (some (.int .i64 0)) (some (.int .i64 1)) none).run Tryd.prog W = .ok (.string ⟨#[45]⟩) W := part_at s _ h 0 1 (by decide) (by simp)
  have t3 : ∀ W, (Instr.slice 9 (.string s) (some (.int .i64 3)) none none).run Tryd.prog W = .ok (.string ⟨#[45, 48, 50]⟩) W := tail_at s _ h 3 (by simp)
  clear h hz
  go_enter Tryd.func35, Tryd.ntmps35
  go_wp2_with fail
  refine wp_loop_rounds 2 ?_
  rw [rounds_succ]
  go_wp2_with fail
  rw [rounds_succ]
  go_wp2_with fail
  go_quiet (fail)
  go_wp2_with fail
  go_returns
  exact ⟨rfl, below_drewN (Below.refl _ w) _⟩

set_option maxRecDepth 100000 in
set_option maxHeartbeats 4000000 in
theorem chunk_dayd_l (s : ByteArray) (h : s.data.toList = [45, 48, 50, 32, 49, 53, 58, 48, 52, 58, 48, 53]) (h60 : s.size ≤ 60) (w : World) (tab : w.cell? ⟨0, 1, none⟩ = some (.int .i64 265)) :
    Calls Tryd.prog 35 #[.string s] w fun e w' => e = .returned (.tuple #[.string ⟨#[45]⟩, .int .i64 265, .string ⟨#[32, 49, 53, 58, 48, 52, 58, 48, 53]⟩]) ∧ Below w.heap.size w w' := by
  have hz : s.size = 12 := by
    have : s.size = s.data.toList.length := by simp
    rw [this, h]
    rfl
  have hle : 12 ≤ s.size := by omega
  have hge : s.size ≤ 12 := by omega
  have i0 : ∀ W, (Instr.index 9 (.string s) (.int .i64 0)).run Tryd.prog W = .ok (.int .u8 45) W := byte_at s _ h 0 (by simp)
  have i1 : ∀ W, (Instr.index 9 (.string s) (.int .i64 1)).run Tryd.prog W = .ok (.int .u8 48) W := byte_at s _ h 1 (by simp)
  have i2 : ∀ W, (Instr.index 9 (.string s) (.int .i64 2)).run Tryd.prog W = .ok (.int .u8 50) W := byte_at s _ h 2 (by simp)
  have s0_7 : ∀ W, (Instr.slice 9 (.string s) (some (.int .i64 0)) (some (.int .i64 7)) none).run Tryd.prog W = .ok (.string ⟨#[45, 48, 50, 32, 49, 53, 58]⟩) W := part_at s _ h 0 7 (by decide) (by simp)
  have s0_9 : ∀ W, (Instr.slice 9 (.string s) (some (.int .i64 0)) (some (.int .i64 9)) none).run Tryd.prog W = .ok (.string ⟨#[45, 48, 50, 32, 49, 53, 58, 48, 52]⟩) W := part_at s _ h 0 9 (by decide) (by simp)
  have s0_5 : ∀ W, (Instr.slice 9 (.string s) (some (.int .i64 0)) (some (.int .i64 5)) none).run Tryd.prog W = .ok (.string ⟨#[45, 48, 50, 32, 49]⟩) W := part_at s _ h 0 5 (by decide) (by simp)
  have s0_6 : ∀ W, (Instr.slice 9 (.string s) (some (.int .i64 0)) (some (.int .i64 6)) none).run Tryd.prog W = .ok (.string ⟨#[45, 48, 50, 32, 49, 53]⟩) W := part_at s _ h 0 6 (by decide) (by simp)
  have s0_3 : ∀ W, (Instr.slice 9 (.string s) (some (.int .i64 0)) (some (.int .i64 3)) none).run Tryd.prog W = .ok (.string ⟨#[45, 48, 50]⟩) W := part_at s _ h 0 3 (by decide) (by simp)
  have s0_1 : ∀ W, (Instr.slice 9 (.string s) (some (.int .i64 0)) (some (.int .i64 1)) none).run Tryd.prog W = .ok (.string ⟨#[45]⟩) W := part_at s _ h 0 1 (by decide) (by simp)
  have t3 : ∀ W, (Instr.slice 9 (.string s) (some (.int .i64 3)) none none).run Tryd.prog W = .ok (.string ⟨#[32, 49, 53, 58, 48, 52, 58, 48, 53]⟩) W := tail_at s _ h 3 (by simp)
  clear h hz
  go_enter Tryd.func35, Tryd.ntmps35
  go_wp2_with fail
  refine wp_loop_rounds 2 ?_
  rw [rounds_succ]
  go_wp2_with fail
  rw [rounds_succ]
  go_wp2_with fail
  go_quiet (fail)
  go_wp2_with fail
  go_returns
  exact ⟨rfl, below_drewN (Below.refl _ w) _⟩

set_option maxRecDepth 100000 in
set_option maxHeartbeats 4000000 in
theorem chunk_dayd_e (s : ByteArray) (h : s.data.toList = [45, 48, 50]) (h60 : s.size ≤ 60) (w : World) (tab : w.cell? ⟨0, 1, none⟩ = some (.int .i64 265)) :
    Calls Tryd.prog 35 #[.string s] w fun e w' => e = .returned (.tuple #[.string ⟨#[45]⟩, .int .i64 265, .string ⟨#[]⟩]) ∧ Below w.heap.size w w' := by
  have hz : s.size = 3 := by
    have : s.size = s.data.toList.length := by simp
    rw [this, h]
    rfl
  have hle : 3 ≤ s.size := by omega
  have hge : s.size ≤ 3 := by omega
  have i0 : ∀ W, (Instr.index 9 (.string s) (.int .i64 0)).run Tryd.prog W = .ok (.int .u8 45) W := byte_at s _ h 0 (by simp)
  have i1 : ∀ W, (Instr.index 9 (.string s) (.int .i64 1)).run Tryd.prog W = .ok (.int .u8 48) W := byte_at s _ h 1 (by simp)
  have i2 : ∀ W, (Instr.index 9 (.string s) (.int .i64 2)).run Tryd.prog W = .ok (.int .u8 50) W := byte_at s _ h 2 (by simp)
  have s0_3 : ∀ W, (Instr.slice 9 (.string s) (some (.int .i64 0)) (some (.int .i64 3)) none).run Tryd.prog W = .ok (.string ⟨#[45, 48, 50]⟩) W := part_at s _ h 0 3 (by decide) (by simp)
  have s0_1 : ∀ W, (Instr.slice 9 (.string s) (some (.int .i64 0)) (some (.int .i64 1)) none).run Tryd.prog W = .ok (.string ⟨#[45]⟩) W := part_at s _ h 0 1 (by decide) (by simp)
  have t3 : ∀ W, (Instr.slice 9 (.string s) (some (.int .i64 3)) none none).run Tryd.prog W = .ok (.string ⟨#[]⟩) W := tail_at s _ h 3 (by simp)
  clear h hz
  go_enter Tryd.func35, Tryd.ntmps35
  go_wp2_with fail
  refine wp_loop_rounds 2 ?_
  rw [rounds_succ]
  go_wp2_with fail
  rw [rounds_succ]
  go_wp2_with fail
  go_quiet (fail)
  go_wp2_with fail
  go_returns
  exact ⟨rfl, below_drewN (Below.refl _ w) _⟩
end Go.Proofs.YtggebombeflmhaaDoor
