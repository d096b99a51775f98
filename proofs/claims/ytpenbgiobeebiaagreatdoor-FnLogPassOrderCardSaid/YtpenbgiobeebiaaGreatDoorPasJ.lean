/- Settings, a logger, its levels. -/
import Derived.Test.YtpenbgiobeebiaaGreatDoorPasI
import Derived.Stop.Asserts
namespace Go.Proofs.YtpenbgiobeebiaaGreatDoor
open Go.RowKit

set_option maxRecDepth 100000 in
theorem defaults_any (w : World) : Calls Tryz.prog 7 #[] w fun e w' => ∃ C, e = .returned (.pointer (some ⟨C, 0, none⟩)) ∧ ConfAt w' C 0 ∧ w.heap.size ≤ C ∧ Keeps (fun _ => False) w w' := by
  go_enter Tryz.func7, Tryz.ntmps7
  go_wp2_with fail
  go_returns
  exact ⟨w.heap.size, rfl, ⟨_, Whole.new w 40 _, rfl, rfl, rfl, rfl, rfl⟩, Nat.le_refl _, (Keeps.refl _ w).alloc _⟩

theorem assert_no (a : Addr) (W : World) : (Instr.typeAssert (.iface 26 (.pointer (some a))) 60 42 true).run Tryz.prog W = .ok (.tuple #[.nilIface, .bool false]) W := run_typeAssert_lacksB Tryz.underlying42 (by kernel_rfl) (by kernel_rfl) _ 60 W

def logV (lv : Int) (C L : Nat) : Value := .agg #[.iface 64 (adV L), .int .i8 lv, .nilIface, .slice none 0 0, .slice none 0 0, .bool false, .pointer (some ⟨C, 0, none⟩)]
set_option maxRecDepth 100000 in
theorem new_any (C L : Nat) (w : World) : Calls Tryz.prog 8 #[.iface 26 (.pointer (some ⟨L, 0, none⟩)), .pointer (some ⟨C, 0, none⟩)] w fun e w' => e = .returned (logV (-1) C L) ∧ Keeps (fun _ => False) w w' := by
  have ha := assert_no ⟨L, 0, none⟩
  go_enter Tryz.func8, Tryz.ntmps8
  go_wp2_with fail
  go_returns
  exact ⟨rfl, (Keeps.refl _ w).alloc _⟩
set_option maxRecDepth 100000 in
theorem level_set (C L : Nat) (lv : Int) (w : World) : Calls Tryz.prog 9 #[logV (-1) C L, .int .i8 lv] w fun e w' => e = .returned (logV lv C L) ∧ Keeps (fun _ => False) w w' := by
  unfold logV
  go_enter Tryz.func9, Tryz.ntmps9
  go_wp2_with fail
  go_returns
  exact ⟨rfl, ((Keeps.refl _ w).alloc _).alloc _⟩
set_option maxRecDepth 100000 in
theorem trace_of (G : Nat) (w : World) (Q : Ending → World → Prop) (hQ : ∀ e w', Q e w' → ∃ v, e = .returned v) (c : Calls Tryz.prog 19 #[.pointer (some ⟨G, 0, none⟩), .int .i8 (-1)] w Q) : Calls Tryz.prog 14 #[.pointer (some ⟨G, 0, none⟩)] w Q := by
  have C19 := Lib.hid c
  have HQ := Lib.hid hQ
  clear c hQ
  go_enter Tryz.func14, Tryz.ntmps14
  go_wp2_with ((go_at_call 19; refine C19.out.mono ?_; intro e w1 he; obtain ⟨v, rfl⟩ := HQ.out _ _ he; have he := Lib.hid he))
  exact he.out
set_option maxRecDepth 100000 in
theorem debug_of (G : Nat) (w : World) (Q : Ending → World → Prop) (hQ : ∀ e w', Q e w' → ∃ v, e = .returned v) (c : Calls Tryz.prog 19 #[.pointer (some ⟨G, 0, none⟩), .int .i8 0] w Q) : Calls Tryz.prog 15 #[.pointer (some ⟨G, 0, none⟩)] w Q := by
  have C19 := Lib.hid c
  have HQ := Lib.hid hQ
  clear c hQ
  go_enter Tryz.func15, Tryz.ntmps15
  go_wp2_with ((go_at_call 19; refine C19.out.mono ?_; intro e w1 he; obtain ⟨v, rfl⟩ := HQ.out _ _ he; have he := Lib.hid he))
  exact he.out
set_option maxRecDepth 100000 in
theorem info_of (G : Nat) (w : World) (Q : Ending → World → Prop) (hQ : ∀ e w', Q e w' → ∃ v, e = .returned v) (c : Calls Tryz.prog 19 #[.pointer (some ⟨G, 0, none⟩), .int .i8 1] w Q) : Calls Tryz.prog 16 #[.pointer (some ⟨G, 0, none⟩)] w Q := by
  have C19 := Lib.hid c
  have HQ := Lib.hid hQ
  clear c hQ
  go_enter Tryz.func16, Tryz.ntmps16
  go_wp2_with ((go_at_call 19; refine C19.out.mono ?_; intro e w1 he; obtain ⟨v, rfl⟩ := HQ.out _ _ he; have he := Lib.hid he))
  exact he.out
set_option maxRecDepth 100000 in
theorem warn_of (G : Nat) (w : World) (Q : Ending → World → Prop) (hQ : ∀ e w', Q e w' → ∃ v, e = .returned v) (c : Calls Tryz.prog 19 #[.pointer (some ⟨G, 0, none⟩), .int .i8 2] w Q) : Calls Tryz.prog 17 #[.pointer (some ⟨G, 0, none⟩)] w Q := by
  have C19 := Lib.hid c
  have HQ := Lib.hid hQ
  clear c hQ
  go_enter Tryz.func17, Tryz.ntmps17
  go_wp2_with ((go_at_call 19; refine C19.out.mono ?_; intro e w1 he; obtain ⟨v, rfl⟩ := HQ.out _ _ he; have he := Lib.hid he))
  exact he.out
set_option maxRecDepth 100000 in
theorem error_of (G : Nat) (w : World) (Q : Ending → World → Prop) (hQ : ∀ e w', Q e w' → ∃ v, e = .returned v) (c : Calls Tryz.prog 19 #[.pointer (some ⟨G, 0, none⟩), .int .i8 3] w Q) : Calls Tryz.prog 18 #[.pointer (some ⟨G, 0, none⟩)] w Q := by
  have C19 := Lib.hid c
  have HQ := Lib.hid hQ
  clear c hQ
  go_enter Tryz.func18, Tryz.ntmps18
  go_wp2_with ((go_at_call 19; refine C19.out.mono ?_; intro e w1 he; obtain ⟨v, rfl⟩ := HQ.out _ _ he; have he := Lib.hid he))
  exact he.out
set_option maxRecDepth 100000 in
theorem log_of (G : Nat) (w : World) (Q : Ending → World → Prop) (hQ : ∀ e w', Q e w' → ∃ v, e = .returned v) (c : Calls Tryz.prog 19 #[.pointer (some ⟨G, 0, none⟩), .int .i8 6] w Q) : Calls Tryz.prog 20 #[.pointer (some ⟨G, 0, none⟩)] w Q := by
  have C19 := Lib.hid c
  have HQ := Lib.hid hQ
  clear c hQ
  go_enter Tryz.func20, Tryz.ntmps20
  go_wp2_with ((go_at_call 19; refine C19.out.mono ?_; intro e w1 he; obtain ⟨v, rfl⟩ := HQ.out _ _ he; have he := Lib.hid he))
  exact he.out
set_option maxRecDepth 100000 in
set_option maxHeartbeats 4000000 in
theorem with_level (G : Nat) (ev : Int) (h1 : -1 ≤ ev) (h2 : ev ≤ 6) (w : World) (Q : Ending → World → Prop) (hQ : ∀ e w', Q e w' → ∃ v, e = .returned v) (c : Calls Tryz.prog 19 #[.pointer (some ⟨G, 0, none⟩), .int .i8 ev] w Q) : Calls Tryz.prog 10 #[.pointer (some ⟨G, 0, none⟩), .int .i8 ev] w Q := by
  have C19 := Lib.hid c
  have HQ := Lib.hid hQ
  clear c hQ
  have : ev = -1 ∨ ev = 0 ∨ ev = 1 ∨ ev = 2 ∨ ev = 3 ∨ ev = 4 ∨ ev = 5 ∨ ev = 6 := by omega
  clear h1 h2
  rcases this with rfl | rfl | rfl | rfl | rfl | rfl | rfl | rfl
  all_goals
    go_enter Tryz.func10, Tryz.ntmps10
    go_wp2_with (first | (go_at_call 14; refine (trace_of G w Q HQ.out C19.out).mono ?_; intro e w1 he; obtain ⟨v, rfl⟩ := HQ.out _ _ he; have he := Lib.hid he) | (go_at_call 15; refine (debug_of G w Q HQ.out C19.out).mono ?_; intro e w1 he; obtain ⟨v, rfl⟩ := HQ.out _ _ he; have he := Lib.hid he) | (go_at_call 16; refine (info_of G w Q HQ.out C19.out).mono ?_; intro e w1 he; obtain ⟨v, rfl⟩ := HQ.out _ _ he; have he := Lib.hid he) | (go_at_call 17; refine (warn_of G w Q HQ.out C19.out).mono ?_; intro e w1 he; obtain ⟨v, rfl⟩ := HQ.out _ _ he; have he := Lib.hid he) | (go_at_call 18; refine (error_of G w Q HQ.out C19.out).mono ?_; intro e w1 he; obtain ⟨v, rfl⟩ := HQ.out _ _ he; have he := Lib.hid he) | (go_at_call 20; refine (log_of G w Q HQ.out C19.out).mono ?_; intro e w1 he; obtain ⟨v, rfl⟩ := HQ.out _ _ he; have he := Lib.hid he) | (go_at_call 19; refine C19.out.mono ?_; intro e w1 he; obtain ⟨v, rfl⟩ := HQ.out _ _ he; have he := Lib.hid he))
    exact he.out
end Go.Proofs.YtpenbgiobeebiaaGreatDoor
