/- Several writers: the walk of LMulti with no writer. -/
import Derived.Test.YtiboiagimcgjkaaDoorMulE
namespace Go.Proofs.YtiboiagimcgjkaaDoor
open Go.RowKit

set_option maxRecDepth 100000 in
set_option maxHeartbeats 1600000 in
theorem multi_new0 (w : World) :
    Calls Tryd.prog 15 #[.slice none 0 0] w fun e w' => (∃ W, e = .returned (.iface 72 (.agg #[.slice (some ⟨W, 0, none⟩) 0 0]))) ∧ Below w.heap.size w w' := by
  obtain ⟨i0, hi0, hz0, hz1, hz2⟩ := info_parts Tryd.info51
  obtain ⟨wm, hmk, hom, hgm⟩ := run_makeSlice_owned w w.heap.size 69 51 i0 .nilIface 1 Tryd.underlying69 hi0 hz0 hz1 .i64 .i64 0 (by omega) (by omega) (by unfold maxLen; omega) (Nat.le_refl _)
  have hmk : Sem.run Tryd.prog (Instr.makeSlice 69 (Value.int IntKind.i64 0) (Value.int IntKind.i64 0)) w = _ := hmk
  have hbel : Below w.heap.size w wm := (Keeps.of_grown hgm (S := fun _ => False) (fun k hk => by cases hk)).below (Nat.le_refl _) (fun _ h => h.elim)
  have HM := Lib.hid hbel
  clear hom hgm hbel
  go_enter Tryd.func15, Tryd.ntmps15
  go_wp2_with fail
  refine wp_loop_rounds 1 ?_
  rw [rounds_succ]
  go_wp2_with fail
  go_ret
  exact ⟨⟨_, rfl⟩, HM.out⟩

set_option maxRecDepth 100000 in
set_option maxHeartbeats 1600000 in
theorem multi_write0 (W : Nat) (lv : Int) (p : Value) (w : World) :
    Calls Tryd.prog 92 #[.agg #[.slice (some ⟨W, 0, none⟩) 0 0], .int .i8 lv, p] w fun e w' => (∃ r : Int, e = .returned (.tuple #[.int .i64 r, .nilIface])) ∧ Below w.heap.size w w' := by
  go_enter Tryd.func92, Tryd.ntmps92
  go_wp2_with fail
  refine wp_loop_rounds 1 ?_
  rw [rounds_succ]
  go_wp2_with fail
  go_returns
  exact ⟨⟨_, rfl⟩, ((Keeps.refl (fun _ => False) w).alloc _).below (Nat.le_refl _) (fun _ h => h.elim)⟩

set_option maxRecDepth 100000 in
set_option maxHeartbeats 4000000 in
theorem lmulti_walk0 (m oc lc : Nat) (lp ap : Option Addr) (ops : Nat → LineOp) (w : World) (hm : m ≤ 40) (hop : OpsAt w ap m ops) (hlen : ∀ i, i < m → (ops i).tx.length ≤ 1000) :
    Calls Tryd.prog 8 #[.slice lp 0 lc, .slice ap m oc] w fun e w' => e = .returned (.slice none 0 0) ∧ Below w.heap.size w w' := by
  have HO := Lib.hid hop
  have HLEN := Lib.hid hlen
  clear hop hlen
  have c15 := multi_new0
  go_enter Tryd.func8, Tryd.ntmps8
  go_wp2_with fail
  refine wp_loop_rounds 1 ?_
  rw [rounds_succ]
  go_wp2_with (first | (go_at_call 15; refine (c15 _).mono ?_; rintro e wm ⟨⟨W, rfl⟩, hbm⟩; have HM := Lib.hid hbm; clear hbm))
  go_loopw [45] (fun i wr => ∃ q : Nat, i = .int .i64 q ∧ q ≤ m ∧ Hid (Below w.heap.size w wr)) (fun i _ => m - (intOf i).toNat)
  case atStart => exact ⟨0, rfl, Nat.zero_le _, HM⟩
  case round =>
    obtain ⟨q, rfl, hq, HQ⟩ := hrel
    by_cases hqm : q < m
    · have hsz := HQ.out.size
      obtain ⟨tq, htq⟩ : ∃ t : ByteArray, t = ⟨(ops q).tx.toArray⟩ := ⟨_, rfl⟩
      obtain ⟨lq, hlq⟩ : ∃ x : Int, x = (ops q).lv := ⟨_, rfl⟩
      obtain ⟨ob, oo, rfl, hob, hoq⟩ := HO.out q hqm
      have hx := op_below HQ.out hob hoq
      clear hoq
      obtain ⟨x0, x1, x2, x3⟩ := hx
      unfold str at x1
      rw [← htq] at x1
      rw [← hlq] at x0
      have hcv := conv_bytes tq
      have hzq : tq.size = (ops q).tx.length := by rw [htq]; show (ops q).tx.toArray.size = _; simp
      have hzs : tq.size ≤ 1000 := by have := HLEN.out q hqm; omega
      have HTQ := Lib.hid (And.intro htq (And.intro hlq hzq))
      clear htq hlq hzq
      have h92 : ∀ (p : Value) wx, Below wr.heap.size wr wx → Calls Tryd.prog 92 #[.agg #[.slice (some ⟨W, 0, none⟩) 0 0], .int .i8 (IntKind.i8.wrap lq), p] wx fun e w' => (∃ r : Int, e = .returned (.tuple #[.int .i64 r, .nilIface])) ∧ Below wr.heap.size wr w' := fun p wx hx => (multi_write0 W _ p wx).mono (by rintro e w' ⟨he, hb⟩; exact ⟨he, hx.trans (hb.mono hx.size)⟩)
      have H92 := Lib.hid h92
      clear h92
      go_wp2_with (first | (go_at_call 92; go_loud (refine (H92.out _ _ ((bytes_keeps wr _ _).below (Nat.le_refl _) (fun _ h => h.elim))).mono ?_); rintro e w2 ⟨⟨r, rfl⟩, hb2⟩; have HL2 := Lib.hid hb2; clear hb2))
      go_roundw
      case rel => exact ⟨q + 1, by go_num, by omega, Lib.hid (HQ.out.trans (HL2.out.mono hsz))⟩
      case measure => simp [intOf]; omega
    · obtain rfl : q = m := by omega
      go_wp2_with fail
      refine wp_loop_rounds 1 ?_
      rw [rounds_succ]
      go_wp2_with fail
      go_ret
      exact ⟨rfl, HQ.out⟩
end Go.Proofs.YtiboiagimcgjkaaDoor
