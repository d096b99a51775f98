/- How a layout is parted (mon_s, mon_c, jan_e, jan_s, under, zone): the walks of one step. -/
import Derived.Test.YtggebombeflmhaaDoorLayS
import Derived.Test.YtggebombeflmhaaDoorKeep
import Derived.Test.YtggebombeflmhaaDoorLayU
import Derived.Deep.DeepCutAuto
import Derived.BigQuiet
namespace Go.Proofs.YtggebombeflmhaaDoor
open Go.RowKit

set_option maxRecDepth 100000 in
set_option maxHeartbeats 4000000 in
theorem chunk_mon_s (s : ByteArray) (R : List UInt8) (h : s.data.toList = [77, 111, 110, 32] ++ R) (hR : 3 ≤ R.length) (h60 : s.size ≤ 60) (w : World) :
    Calls Tryd.prog 35 #[.string s] w fun e w' => e = .returned (.tuple #[.string ⟨#[]⟩, .int .i64 262, .string ⟨(32 :: R).toArray⟩]) ∧ Below w.heap.size w w' := by
  have hz : s.size = 4 + R.length := by
    have : s.size = s.data.toList.length := by simp
    rw [this, h]
    simp
    omega
  have hle : 7 ≤ s.size := by omega
  have i0 : ∀ W, (Instr.index 9 (.string s) (.int .i64 0)).run Tryd.prog W = .ok (.int .u8 77) W := byte_at s _ h 0 (by simp)
  have s0_3 : ∀ W, (Instr.slice 9 (.string s) (some (.int .i64 0)) (some (.int .i64 3)) none).run Tryd.prog W = .ok (.string ⟨#[77, 111, 110]⟩) W := part_at s _ h 0 3 (by decide) (by simp)
  obtain ⟨x6, hx6, s0_6⟩ : ∃ t : ByteArray, (t.toList == [77, 111, 110, 100, 97, 121]) = false ∧ ∀ W, (Instr.slice 9 (.string s) (some (.int .i64 0)) (some (.int .i64 6)) none).run Tryd.prog W = .ok (.string t) W :=
    ⟨_, not_lit _ _ 3 (by simp), part_at s _ h 0 6 (by decide) (by simp; omega)⟩
  have t3 : ∀ W, (Instr.slice 9 (.string s) (some (.int .i64 3)) none none).run Tryd.prog W = .ok (.string ⟨(32 :: R).toArray⟩) W := tail_at s _ h 3 (by simp)
  have s0_0 : ∀ W, (Instr.slice 9 (.string s) (some (.int .i64 0)) (some (.int .i64 0)) none).run Tryd.prog W = .ok (.string ⟨#[]⟩) W := part_at s _ h 0 0 (by decide) (by simp)
  clear h hz hR
  go_enter Tryd.func35, Tryd.ntmps35
  go_wp2_with fail
  refine wp_loop_rounds 1 ?_
  rw [rounds_succ]
  go_wp2_with (first | (go_at_call 54; refine (low_no _ 32 _ rfl (by decide) _).mono ?_; rintro e w' ⟨rfl, rfl⟩))
  go_quiet (fail)
  go_wp2_with fail
  go_returns
  exact ⟨rfl, below_drewN (Below.refl _ w) _⟩

set_option maxRecDepth 100000 in
set_option maxHeartbeats 4000000 in
theorem chunk_mon_c (s : ByteArray) (R : List UInt8) (h : s.data.toList = [77, 111, 110, 44] ++ R) (hR : 3 ≤ R.length) (h60 : s.size ≤ 60) (w : World) :
    Calls Tryd.prog 35 #[.string s] w fun e w' => e = .returned (.tuple #[.string ⟨#[]⟩, .int .i64 262, .string ⟨(44 :: R).toArray⟩]) ∧ Below w.heap.size w w' := by
  have hz : s.size = 4 + R.length := by
    have : s.size = s.data.toList.length := by simp
    rw [this, h]
    simp
    omega
  have hle : 7 ≤ s.size := by omega
  have i0 : ∀ W, (Instr.index 9 (.string s) (.int .i64 0)).run Tryd.prog W = .ok (.int .u8 77) W := byte_at s _ h 0 (by simp)
  have s0_3 : ∀ W, (Instr.slice 9 (.string s) (some (.int .i64 0)) (some (.int .i64 3)) none).run Tryd.prog W = .ok (.string ⟨#[77, 111, 110]⟩) W := part_at s _ h 0 3 (by decide) (by simp)
  obtain ⟨x6, hx6, s0_6⟩ : ∃ t : ByteArray, (t.toList == [77, 111, 110, 100, 97, 121]) = false ∧ ∀ W, (Instr.slice 9 (.string s) (some (.int .i64 0)) (some (.int .i64 6)) none).run Tryd.prog W = .ok (.string t) W :=
    ⟨_, not_lit _ _ 3 (by simp), part_at s _ h 0 6 (by decide) (by simp; omega)⟩
  have t3 : ∀ W, (Instr.slice 9 (.string s) (some (.int .i64 3)) none none).run Tryd.prog W = .ok (.string ⟨(44 :: R).toArray⟩) W := tail_at s _ h 3 (by simp)
  have s0_0 : ∀ W, (Instr.slice 9 (.string s) (some (.int .i64 0)) (some (.int .i64 0)) none).run Tryd.prog W = .ok (.string ⟨#[]⟩) W := part_at s _ h 0 0 (by decide) (by simp)
  clear h hz hR
  go_enter Tryd.func35, Tryd.ntmps35
  go_wp2_with fail
  refine wp_loop_rounds 1 ?_
  rw [rounds_succ]
  go_wp2_with (first | (go_at_call 54; refine (low_no _ 44 _ rfl (by decide) _).mono ?_; rintro e w' ⟨rfl, rfl⟩))
  go_quiet (fail)
  go_wp2_with fail
  go_returns
  exact ⟨rfl, below_drewN (Below.refl _ w) _⟩

set_option maxRecDepth 100000 in
set_option maxHeartbeats 4000000 in
theorem chunk_jan_e (s : ByteArray) (R : List UInt8) (h : s.data.toList = [74, 97, 110, 32] ++ R) (hR : 3 ≤ R.length) (h60 : s.size ≤ 60) (w : World) :
    Calls Tryd.prog 35 #[.string s] w fun e w' => e = .returned (.tuple #[.string ⟨#[]⟩, .int .i64 258, .string ⟨(32 :: R).toArray⟩]) ∧ Below w.heap.size w w' := by
  have hz : s.size = 4 + R.length := by
    have : s.size = s.data.toList.length := by simp
    rw [this, h]
    simp
    omega
  have hle : 7 ≤ s.size := by omega
  have i0 : ∀ W, (Instr.index 9 (.string s) (.int .i64 0)).run Tryd.prog W = .ok (.int .u8 74) W := byte_at s _ h 0 (by simp)
  have s0_3 : ∀ W, (Instr.slice 9 (.string s) (some (.int .i64 0)) (some (.int .i64 3)) none).run Tryd.prog W = .ok (.string ⟨#[74, 97, 110]⟩) W := part_at s _ h 0 3 (by decide) (by simp)
  obtain ⟨x7, hx7, s0_7⟩ : ∃ t : ByteArray, (t.toList == [74, 97, 110, 117, 97, 114, 121]) = false ∧ ∀ W, (Instr.slice 9 (.string s) (some (.int .i64 0)) (some (.int .i64 7)) none).run Tryd.prog W = .ok (.string t) W :=
    ⟨_, not_lit _ _ 3 (by simp), part_at s _ h 0 7 (by decide) (by simp; omega)⟩
  have t3 : ∀ W, (Instr.slice 9 (.string s) (some (.int .i64 3)) none none).run Tryd.prog W = .ok (.string ⟨(32 :: R).toArray⟩) W := tail_at s _ h 3 (by simp)
  have s0_0 : ∀ W, (Instr.slice 9 (.string s) (some (.int .i64 0)) (some (.int .i64 0)) none).run Tryd.prog W = .ok (.string ⟨#[]⟩) W := part_at s _ h 0 0 (by decide) (by simp)
  clear h hz hR
  go_enter Tryd.func35, Tryd.ntmps35
  go_wp2_with fail
  refine wp_loop_rounds 1 ?_
  rw [rounds_succ]
  go_wp2_with (first | (go_at_call 54; refine (low_no _ 32 _ rfl (by decide) _).mono ?_; rintro e w' ⟨rfl, rfl⟩))
  go_quiet (fail)
  go_wp2_with fail
  go_returns
  exact ⟨rfl, below_drewN (Below.refl _ w) _⟩

set_option maxRecDepth 100000 in
set_option maxHeartbeats 4000000 in
theorem chunk_jan_s (s : ByteArray) (R : List UInt8) (h : s.data.toList = [32, 74, 97, 110, 32] ++ R) (hR : 3 ≤ R.length) (h60 : s.size ≤ 60) (w : World) :
    Calls Tryd.prog 35 #[.string s] w fun e w' => e = .returned (.tuple #[.string ⟨#[32]⟩, .int .i64 258, .string ⟨(32 :: R).toArray⟩]) ∧ Below w.heap.size w w' := by
  have hz : s.size = 5 + R.length := by
    have : s.size = s.data.toList.length := by simp
    rw [this, h]
    simp
    omega
  have hle : 8 ≤ s.size := by omega
  have i0 : ∀ W, (Instr.index 9 (.string s) (.int .i64 0)).run Tryd.prog W = .ok (.int .u8 32) W := byte_at s _ h 0 (by simp)
  have i1 : ∀ W, (Instr.index 9 (.string s) (.int .i64 1)).run Tryd.prog W = .ok (.int .u8 74) W := byte_at s _ h 1 (by simp)
  have s1_4 : ∀ W, (Instr.slice 9 (.string s) (some (.int .i64 1)) (some (.int .i64 4)) none).run Tryd.prog W = .ok (.string ⟨#[74, 97, 110]⟩) W := part_at s _ h 1 4 (by decide) (by simp)
  obtain ⟨x8, hx8, s1_8⟩ : ∃ t : ByteArray, (t.toList == [74, 97, 110, 117, 97, 114, 121]) = false ∧ ∀ W, (Instr.slice 9 (.string s) (some (.int .i64 1)) (some (.int .i64 8)) none).run Tryd.prog W = .ok (.string t) W :=
    ⟨_, not_lit _ _ 3 (by simp), part_at s _ h 1 8 (by decide) (by simp; omega)⟩
  have t4 : ∀ W, (Instr.slice 9 (.string s) (some (.int .i64 4)) none none).run Tryd.prog W = .ok (.string ⟨(32 :: R).toArray⟩) W := tail_at s _ h 4 (by simp)
  have s0_1 : ∀ W, (Instr.slice 9 (.string s) (some (.int .i64 0)) (some (.int .i64 1)) none).run Tryd.prog W = .ok (.string ⟨#[32]⟩) W := part_at s _ h 0 1 (by decide) (by simp)
  clear h hz hR
  go_enter Tryd.func35, Tryd.ntmps35
  go_wp2_with fail
  refine wp_loop_rounds 2 ?_
  rw [rounds_succ]
  go_wp2_with fail
  rw [rounds_succ]
  go_wp2_with (first | (go_at_call 54; refine (low_no _ 32 _ rfl (by decide) _).mono ?_; rintro e w' ⟨rfl, rfl⟩))
  go_quiet (fail)
  go_wp2_with fail
  go_returns
  exact ⟨rfl, below_drewN (Below.refl _ w) _⟩

set_option maxRecDepth 100000 in
set_option maxHeartbeats 4000000 in
theorem chunk_under (s : ByteArray) (R : List UInt8) (h : s.data.toList = [32, 95, 50, 32] ++ R) (hR : 3 ≤ R.length) (h60 : s.size ≤ 60) (w : World) :
    Calls Tryd.prog 35 #[.string s] w fun e w' => e = .returned (.tuple #[.string ⟨#[32]⟩, .int .i64 264, .string ⟨(32 :: R).toArray⟩]) ∧ Below w.heap.size w w' := by
  have hz : s.size = 4 + R.length := by
    have : s.size = s.data.toList.length := by simp
    rw [this, h]
    simp
    omega
  have hle : 7 ≤ s.size := by omega
  have i0 : ∀ W, (Instr.index 9 (.string s) (.int .i64 0)).run Tryd.prog W = .ok (.int .u8 32) W := byte_at s _ h 0 (by simp)
  have i1 : ∀ W, (Instr.index 9 (.string s) (.int .i64 1)).run Tryd.prog W = .ok (.int .u8 95) W := byte_at s _ h 1 (by simp)
  have i2 : ∀ W, (Instr.index 9 (.string s) (.int .i64 2)).run Tryd.prog W = .ok (.int .u8 50) W := byte_at s _ h 2 (by simp)
  obtain ⟨x6, hx6, s2_6⟩ : ∃ t : ByteArray, (t.toList == [50, 48, 48, 54]) = false ∧ ∀ W, (Instr.slice 9 (.string s) (some (.int .i64 2)) (some (.int .i64 6)) none).run Tryd.prog W = .ok (.string t) W :=
    ⟨_, not_lit _ _ 1 (by simp), part_at s _ h 2 6 (by decide) (by simp; omega)⟩
  have s0_1 : ∀ W, (Instr.slice 9 (.string s) (some (.int .i64 0)) (some (.int .i64 1)) none).run Tryd.prog W = .ok (.string ⟨#[32]⟩) W := part_at s _ h 0 1 (by decide) (by simp)
  have t3 : ∀ W, (Instr.slice 9 (.string s) (some (.int .i64 3)) none none).run Tryd.prog W = .ok (.string ⟨(32 :: R).toArray⟩) W := tail_at s _ h 3 (by simp)
  clear h hz hR
  go_enter Tryd.func35, Tryd.ntmps35
  go_wp2_with fail
  refine wp_loop_rounds 2 ?_
  rw [rounds_succ]
  go_wp2_with fail
  rw [rounds_succ]
  go_wp2_with fail
  go_quiet (fail)
  go_wp2_with fail
  go_returns
  exact ⟨rfl, below_drewN (Below.refl _ w) _⟩

set_option maxRecDepth 100000 in
set_option maxHeartbeats 4000000 in
theorem chunk_zone (s : ByteArray) (h : s.data.toList = [32, 45, 48, 55, 48, 48]) (h60 : s.size ≤ 60) (w : World) :
    Calls Tryd.prog 35 #[.string s] w fun e w' => e = .returned (.tuple #[.string ⟨#[32]⟩, .int .i64 29, .string ⟨#[]⟩]) ∧ Below w.heap.size w w' := by
  have hz : s.size = 6 := by
    have : s.size = s.data.toList.length := by simp
    rw [this, h]
    rfl
  have hle : 6 ≤ s.size := by omega
  have hge : s.size ≤ 6 := by omega
  have i0 : ∀ W, (Instr.index 9 (.string s) (.int .i64 0)).run Tryd.prog W = .ok (.int .u8 32) W := byte_at s _ h 0 (by simp)
  have i1 : ∀ W, (Instr.index 9 (.string s) (.int .i64 1)).run Tryd.prog W = .ok (.int .u8 45) W := byte_at s _ h 1 (by simp)
  have s1_6 : ∀ W, (Instr.slice 9 (.string s) (some (.int .i64 1)) (some (.int .i64 6)) none).run Tryd.prog W = .ok (.string ⟨#[45, 48, 55, 48, 48]⟩) W := part_at s _ h 1 6 (by decide) (by simp)
  have s0_1 : ∀ W, (Instr.slice 9 (.string s) (some (.int .i64 0)) (some (.int .i64 1)) none).run Tryd.prog W = .ok (.string ⟨#[32]⟩) W := part_at s _ h 0 1 (by decide) (by simp)
  have t6 : ∀ W, (Instr.slice 9 (.string s) (some (.int .i64 6)) none none).run Tryd.prog W = .ok (.string ⟨#[]⟩) W := tail_at s _ h 6 (by simp)
  clear h hz
  go_enter Tryd.func35, Tryd.ntmps35
  go_wp2_with fail
  refine wp_loop_rounds 2 ?_
  rw [rounds_succ]
  go_wp2_with fail
  rw [rounds_succ]
  go_wp2_with fail
  go_quiet (fail)
  go_wp2_with fail
  go_returns
  exact ⟨rfl, below_drewN (Below.refl _ w) _⟩
end Go.Proofs.YtggebombeflmhaaDoor
