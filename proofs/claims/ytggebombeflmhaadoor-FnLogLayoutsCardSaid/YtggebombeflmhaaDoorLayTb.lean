/- How a layout is parted (hour_e, hour_s, min, sec, year_e, year_s, h12, pm): the walks of one step. -/
import Derived.Test.YtggebombeflmhaaDoorLayS
import Derived.Test.YtggebombeflmhaaDoorKeep
import Derived.Test.YtggebombeflmhaaDoorLayU
import Derived.Deep.DeepCutAuto
import Derived.BigQuiet
namespace Go.Proofs.YtggebombeflmhaaDoor
open Go.RowKit

set_option maxRecDepth 100000 in
set_option maxHeartbeats 4000000 in
theorem chunk_hour_e (s : ByteArray) (R : List UInt8) (h : s.data.toList = [49, 53] ++ R) (h60 : s.size ≤ 60) (w : World) :
    Calls Tryd.prog 35 #[.string s] w fun e w' => e = .returned (.tuple #[.string ⟨#[]⟩, .int .i64 1036, .string ⟨R.toArray⟩]) ∧ Below w.heap.size w w' := by
  have hz : s.size = 2 + R.length := by
    have : s.size = s.data.toList.length := by simp
    rw [this, h]
    simp
    omega
  have hle : 2 ≤ s.size := by omega
  have i0 : ∀ W, (Instr.index 9 (.string s) (.int .i64 0)).run Tryd.prog W = .ok (.int .u8 49) W := byte_at s _ h 0 (by simp)
  have i1 : ∀ W, (Instr.index 9 (.string s) (.int .i64 1)).run Tryd.prog W = .ok (.int .u8 53) W := byte_at s _ h 1 (by simp)
  have s0_0 : ∀ W, (Instr.slice 9 (.string s) (some (.int .i64 0)) (some (.int .i64 0)) none).run Tryd.prog W = .ok (.string ⟨#[]⟩) W := part_at s _ h 0 0 (by decide) (by simp)
  have t2 : ∀ W, (Instr.slice 9 (.string s) (some (.int .i64 2)) none none).run Tryd.prog W = .ok (.string ⟨R.toArray⟩) W := tail_at s _ h 2 (by simp)
  clear h hz
  go_enter Tryd.func35, Tryd.ntmps35
  go_wp2_with fail
  refine wp_loop_rounds 1 ?_
  rw [rounds_succ]
  go_wp2_with fail
  go_quiet (fail)
  go_wp2_with fail
  go_returns
  exact ⟨rfl, below_drewN (Below.refl _ w) _⟩

set_option maxRecDepth 100000 in
set_option maxHeartbeats 4000000 in
theorem chunk_hour_s (s : ByteArray) (R : List UInt8) (h : s.data.toList = [32, 49, 53] ++ R) (h60 : s.size ≤ 60) (w : World) :
    Calls Tryd.prog 35 #[.string s] w fun e w' => e = .returned (.tuple #[.string ⟨#[32]⟩, .int .i64 1036, .string ⟨R.toArray⟩]) ∧ Below w.heap.size w w' := by
  have hz : s.size = 3 + R.length := by
    have : s.size = s.data.toList.length := by simp
    rw [this, h]
    simp
    omega
  have hle : 3 ≤ s.size := by omega
  have i0 : ∀ W, (Instr.index 9 (.string s) (.int .i64 0)).run Tryd.prog W = .ok (.int .u8 32) W := byte_at s _ h 0 (by simp)
  have i1 : ∀ W, (Instr.index 9 (.string s) (.int .i64 1)).run Tryd.prog W = .ok (.int .u8 49) W := byte_at s _ h 1 (by simp)
  have i2 : ∀ W, (Instr.index 9 (.string s) (.int .i64 2)).run Tryd.prog W = .ok (.int .u8 53) W := byte_at s _ h 2 (by simp)
  have s0_1 : ∀ W, (Instr.slice 9 (.string s) (some (.int .i64 0)) (some (.int .i64 1)) none).run Tryd.prog W = .ok (.string ⟨#[32]⟩) W := part_at s _ h 0 1 (by decide) (by simp)
  have t3 : ∀ W, (Instr.slice 9 (.string s) (some (.int .i64 3)) none none).run Tryd.prog W = .ok (.string ⟨R.toArray⟩) W := tail_at s _ h 3 (by simp)
  clear h hz
  go_enter Tryd.func35, Tryd.ntmps35
  go_wp2_with fail
  refine wp_loop_rounds 2 ?_
  rw [rounds_succ]
  go_wp2_with fail
  rw [rounds_succ]
  go_wp2_with fail
  go_quiet (fail)
  go_wp2_with fail
  go_returns
  exact ⟨rfl, below_drewN (Below.refl _ w) _⟩

set_option maxRecDepth 100000 in
set_option maxHeartbeats 4000000 in
theorem chunk_min (s : ByteArray) (R : List UInt8) (h : s.data.toList = [58, 48, 52] ++ R) (h60 : s.size ≤ 60) (w : World) (tab : w.cell? ⟨0, 3, none⟩ = some (.int .i64 1040)) :
    Calls Tryd.prog 35 #[.string s] w fun e w' => e = .returned (.tuple #[.string ⟨#[58]⟩, .int .i64 1040, .string ⟨R.toArray⟩]) ∧ Below w.heap.size w w' := by
  have hz : s.size = 3 + R.length := by
    have : s.size = s.data.toList.length := by simp
    rw [this, h]
    simp
    omega
  have hle : 3 ≤ s.size := by omega
  have i0 : ∀ W, (Instr.index 9 (.string s) (.int .i64 0)).run Tryd.prog W = .ok (.int .u8 58) W := byte_at s _ h 0 (by simp)
  have i1 : ∀ W, (Instr.index 9 (.string s) (.int .i64 1)).run Tryd.prog W = .ok (.int .u8 48) W := byte_at s _ h 1 (by simp)
  have i2 : ∀ W, (Instr.index 9 (.string s) (.int .i64 2)).run Tryd.prog W = .ok (.int .u8 52) W := byte_at s _ h 2 (by simp)
  have s0_1 : ∀ W, (Instr.slice 9 (.string s) (some (.int .i64 0)) (some (.int .i64 1)) none).run Tryd.prog W = .ok (.string ⟨#[58]⟩) W := part_at s _ h 0 1 (by decide) (by simp)
  have t3 : ∀ W, (Instr.slice 9 (.string s) (some (.int .i64 3)) none none).run Tryd.prog W = .ok (.string ⟨R.toArray⟩) W := tail_at s _ h 3 (by simp)
  clear h hz
  go_enter Tryd.func35, Tryd.ntmps35
  go_wp2_with fail
  refine wp_loop_rounds 2 ?_
  rw [rounds_succ]
  go_wp2_with fail
  rw [rounds_succ]
  go_wp2_with fail
  go_quiet (fail)
  go_wp2_with fail
  go_returns
  exact ⟨rfl, below_drewN (Below.refl _ w) _⟩

set_option maxRecDepth 100000 in
set_option maxHeartbeats 4000000 in
theorem chunk_sec (s : ByteArray) (R : List UInt8) (h : s.data.toList = [58, 48, 53] ++ R) (h60 : s.size ≤ 60) (w : World) (tab : w.cell? ⟨0, 4, none⟩ = some (.int .i64 1042)) :
    Calls Tryd.prog 35 #[.string s] w fun e w' => e = .returned (.tuple #[.string ⟨#[58]⟩, .int .i64 1042, .string ⟨R.toArray⟩]) ∧ Below w.heap.size w w' := by
  have hz : s.size = 3 + R.length := by
    have : s.size = s.data.toList.length := by simp
    rw [this, h]
    simp
    omega
  have hle : 3 ≤ s.size := by omega
  have i0 : ∀ W, (Instr.index 9 (.string s) (.int .i64 0)).run Tryd.prog W = .ok (.int .u8 58) W := byte_at s _ h 0 (by simp)
  have i1 : ∀ W, (Instr.index 9 (.string s) (.int .i64 1)).run Tryd.prog W = .ok (.int .u8 48) W := byte_at s _ h 1 (by simp)
  have i2 : ∀ W, (Instr.index 9 (.string s) (.int .i64 2)).run Tryd.prog W = .ok (.int .u8 53) W := byte_at s _ h 2 (by simp)
  have s0_1 : ∀ W, (Instr.slice 9 (.string s) (some (.int .i64 0)) (some (.int .i64 1)) none).run Tryd.prog W = .ok (.string ⟨#[58]⟩) W := part_at s _ h 0 1 (by decide) (by simp)
  have t3 : ∀ W, (Instr.slice 9 (.string s) (some (.int .i64 3)) none none).run Tryd.prog W = .ok (.string ⟨R.toArray⟩) W := tail_at s _ h 3 (by simp)
  clear h hz
  go_enter Tryd.func35, Tryd.ntmps35
  go_wp2_with fail
  refine wp_loop_rounds 2 ?_
  rw [rounds_succ]
  go_wp2_with fail
  rw [rounds_succ]
  go_wp2_with fail
  go_quiet (fail)
  go_wp2_with fail
  go_returns
  exact ⟨rfl, below_drewN (Below.refl _ w) _⟩

set_option maxRecDepth 100000 in
set_option maxHeartbeats 4000000 in
theorem chunk_year_e (s : ByteArray) (R : List UInt8) (h : s.data.toList = [50, 48, 48, 54] ++ R) (h60 : s.size ≤ 60) (w : World) :
    Calls Tryd.prog 35 #[.string s] w fun e w' => e = .returned (.tuple #[.string ⟨#[]⟩, .int .i64 275, .string ⟨R.toArray⟩]) ∧ Below w.heap.size w w' := by
  have hz : s.size = 4 + R.length := by
    have : s.size = s.data.toList.length := by simp
    rw [this, h]
    simp
    omega
  have hle : 4 ≤ s.size := by omega
  have i0 : ∀ W, (Instr.index 9 (.string s) (.int .i64 0)).run Tryd.prog W = .ok (.int .u8 50) W := byte_at s _ h 0 (by simp)
  have s0_4 : ∀ W, (Instr.slice 9 (.string s) (some (.int .i64 0)) (some (.int .i64 4)) none).run Tryd.prog W = .ok (.string ⟨#[50, 48, 48, 54]⟩) W := part_at s _ h 0 4 (by decide) (by simp)
  have s0_0 : ∀ W, (Instr.slice 9 (.string s) (some (.int .i64 0)) (some (.int .i64 0)) none).run Tryd.prog W = .ok (.string ⟨#[]⟩) W := part_at s _ h 0 0 (by decide) (by simp)
  have t4 : ∀ W, (Instr.slice 9 (.string s) (some (.int .i64 4)) none none).run Tryd.prog W = .ok (.string ⟨R.toArray⟩) W := tail_at s _ h 4 (by simp)
  clear h hz
  go_enter Tryd.func35, Tryd.ntmps35
  go_wp2_with fail
  refine wp_loop_rounds 1 ?_
  rw [rounds_succ]
  go_wp2_with fail
  go_quiet (fail)
  go_wp2_with fail
  go_returns
  exact ⟨rfl, below_drewN (Below.refl _ w) _⟩

set_option maxRecDepth 100000 in
set_option maxHeartbeats 4000000 in
theorem chunk_year_s (s : ByteArray) (R : List UInt8) (h : s.data.toList = [32, 50, 48, 48, 54] ++ R) (h60 : s.size ≤ 60) (w : World) :
    Calls Tryd.prog 35 #[.string s] w fun e w' => e = .returned (.tuple #[.string ⟨#[32]⟩, .int .i64 275, .string ⟨R.toArray⟩]) ∧ Below w.heap.size w w' := by
  have hz : s.size = 5 + R.length := by
    have : s.size = s.data.toList.length := by simp
    rw [this, h]
    simp
    omega
  have hle : 5 ≤ s.size := by omega
  have i0 : ∀ W, (Instr.index 9 (.string s) (.int .i64 0)).run Tryd.prog W = .ok (.int .u8 32) W := byte_at s _ h 0 (by simp)
  have i1 : ∀ W, (Instr.index 9 (.string s) (.int .i64 1)).run Tryd.prog W = .ok (.int .u8 50) W := byte_at s _ h 1 (by simp)
  have s1_5 : ∀ W, (Instr.slice 9 (.string s) (some (.int .i64 1)) (some (.int .i64 5)) none).run Tryd.prog W = .ok (.string ⟨#[50, 48, 48, 54]⟩) W := part_at s _ h 1 5 (by decide) (by simp)
  have s0_1 : ∀ W, (Instr.slice 9 (.string s) (some (.int .i64 0)) (some (.int .i64 1)) none).run Tryd.prog W = .ok (.string ⟨#[32]⟩) W := part_at s _ h 0 1 (by decide) (by simp)
  have t5 : ∀ W, (Instr.slice 9 (.string s) (some (.int .i64 5)) none none).run Tryd.prog W = .ok (.string ⟨R.toArray⟩) W := tail_at s _ h 5 (by simp)
  clear h hz
  go_enter Tryd.func35, Tryd.ntmps35
  go_wp2_with fail
  refine wp_loop_rounds 2 ?_
  rw [rounds_succ]
  go_wp2_with fail
  rw [rounds_succ]
  go_wp2_with fail
  go_quiet (fail)
  go_wp2_with fail
  go_returns
  exact ⟨rfl, below_drewN (Below.refl _ w) _⟩

set_option maxRecDepth 100000 in
set_option maxHeartbeats 4000000 in
theorem chunk_h12 (s : ByteArray) (R : List UInt8) (h : s.data.toList = [51] ++ R) (h60 : s.size ≤ 60) (w : World) :
    Calls Tryd.prog 35 #[.string s] w fun e w' => e = .returned (.tuple #[.string ⟨#[]⟩, .int .i64 1037, .string ⟨R.toArray⟩]) ∧ Below w.heap.size w w' := by
  have hz : s.size = 1 + R.length := by
    have : s.size = s.data.toList.length := by simp
    rw [this, h]
    simp
    omega
  have hle : 1 ≤ s.size := by omega
  have i0 : ∀ W, (Instr.index 9 (.string s) (.int .i64 0)).run Tryd.prog W = .ok (.int .u8 51) W := byte_at s _ h 0 (by simp)
  have s0_0 : ∀ W, (Instr.slice 9 (.string s) (some (.int .i64 0)) (some (.int .i64 0)) none).run Tryd.prog W = .ok (.string ⟨#[]⟩) W := part_at s _ h 0 0 (by decide) (by simp)
  have t1 : ∀ W, (Instr.slice 9 (.string s) (some (.int .i64 1)) none none).run Tryd.prog W = .ok (.string ⟨R.toArray⟩) W := tail_at s _ h 1 (by simp)
  clear h hz
  go_enter Tryd.func35, Tryd.ntmps35
  go_wp2_with fail
  refine wp_loop_rounds 1 ?_
  rw [rounds_succ]
  go_wp2_with fail
  go_quiet (fail)
  go_wp2_with fail
  go_returns
  exact ⟨rfl, below_drewN (Below.refl _ w) _⟩

set_option maxRecDepth 100000 in
set_option maxHeartbeats 4000000 in
theorem chunk_pm (s : ByteArray) (R : List UInt8) (h : s.data.toList = [80, 77] ++ R) (h60 : s.size ≤ 60) (w : World) :
    Calls Tryd.prog 35 #[.string s] w fun e w' => e = .returned (.tuple #[.string ⟨#[]⟩, .int .i64 1045, .string ⟨R.toArray⟩]) ∧ Below w.heap.size w w' := by
  have hz : s.size = 2 + R.length := by
    have : s.size = s.data.toList.length := by simp
    rw [this, h]
    simp
    omega
  have hle : 2 ≤ s.size := by omega
  have i0 : ∀ W, (Instr.index 9 (.string s) (.int .i64 0)).run Tryd.prog W = .ok (.int .u8 80) W := byte_at s _ h 0 (by simp)
  have i1 : ∀ W, (Instr.index 9 (.string s) (.int .i64 1)).run Tryd.prog W = .ok (.int .u8 77) W := byte_at s _ h 1 (by simp)
  have s0_0 : ∀ W, (Instr.slice 9 (.string s) (some (.int .i64 0)) (some (.int .i64 0)) none).run Tryd.prog W = .ok (.string ⟨#[]⟩) W := part_at s _ h 0 0 (by decide) (by simp)
  have t2 : ∀ W, (Instr.slice 9 (.string s) (some (.int .i64 2)) none none).run Tryd.prog W = .ok (.string ⟨R.toArray⟩) W := tail_at s _ h 2 (by simp)
  clear h hz
  go_enter Tryd.func35, Tryd.ntmps35
  go_wp2_with fail
  refine wp_loop_rounds 1 ?_
  rw [rounds_succ]
  go_wp2_with fail
  go_quiet (fail)
  go_wp2_with fail
  go_returns
  exact ⟨rfl, below_drewN (Below.refl _ w) _⟩
end Go.Proofs.YtggebombeflmhaaDoor
