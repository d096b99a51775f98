/- Several writers: the sizes' guards, and texts compared. -/
import Derived.Test.YtiboiagimcgjkaaDoorMulF
namespace Go.Proofs.YtiboiagimcgjkaaDoor
open Go.RowKit

theorem alloc_below (w : World) (o : Obj) : Below w.heap.size w (w.alloc o) := ((Keeps.refl (fun _ => False) w).alloc o).below (Nat.le_refl _) (fun _ h => h.elim)
set_option maxRecDepth 100000 in
set_option maxHeartbeats 1600000 in
theorem fits5_any (t : ByteArray) (lv : Int) (tr cl : Bool) (w : World) :
    Calls Tryd.prog 14 #[.agg #[.int .i64 lv, .string t, .bool tr, .bool cl]] w fun e w' => e = .returned (.bool (decide (t.size ≤ 2147483647))) ∧ Below w.heap.size w w' := by
  have hb := alloc_below w
  go_enter Tryd.func14, Tryd.ntmps14
  by_cases h : t.size ≤ 2147483647
  · go_wp2_with fail
    go_ret
    exact ⟨by rw [decide_eq_true h]; rfl, hb _⟩
  · go_wp2_with fail
    go_ret
    exact ⟨by rw [decide_eq_false h]; rfl, hb _⟩

set_option maxRecDepth 100000 in
set_option maxHeartbeats 1600000 in
/-- Whether a row of lines holds nothing too long: some answer. -/
theorem fits4_any (m oc : Nat) (ap : Option Addr) (ops : Nat → LineOp) (w : World) (hop : OpsAt w ap m ops) :
    Calls Tryd.prog 6 #[.slice ap m oc] w fun e w' => (∃ b : Bool, e = .returned (.bool b) ∧ (b = true → m ≤ 2147483647)) ∧ Below w.heap.size w w' := by
  have HO := Lib.hid hop
  clear hop
  have c14 := fits5_any
  go_enter Tryd.func6, Tryd.ntmps6
  by_cases h : m ≤ 2147483647
  · go_wp2_with fail
    go_loopw [10] (fun i wr => ∃ q : Nat, i = .int .i64 q ∧ q ≤ m ∧ Hid (Below w.heap.size w wr)) (fun i _ => m - (intOf i).toNat)
    case atStart => exact ⟨0, rfl, Nat.zero_le _, Lib.hid (Below.refl _ _)⟩
    case round =>
      obtain ⟨q, rfl, hq, HQ⟩ := hrel
      by_cases hqm : q < m
      · have hsz := HQ.out.size
        obtain ⟨tq, htq⟩ : ∃ t : ByteArray, t = ⟨(ops q).tx.toArray⟩ := ⟨_, rfl⟩
        obtain ⟨lq, hlq⟩ : ∃ x : Int, x = (ops q).lv := ⟨_, rfl⟩
        obtain ⟨ob, oo, rfl, hob, hoq⟩ := HO.out q hqm
        have hx := op_below HQ.out hob hoq
        clear hoq
        obtain ⟨x0, x1, x2, x3⟩ := hx
        unfold str at x1
        rw [← htq] at x1
        rw [← hlq] at x0
        clear htq hlq
        go_wp2_with (first | (go_at_call 14; refine (c14 _ _ _ _ _).mono ?_; rintro e w1 ⟨rfl, hb⟩; have HB := Lib.hid hb; clear hb; by_cases ht : tq.size ≤ 2147483647))
        · go_roundw
          case rel => exact ⟨q + 1, by go_num, by omega, Lib.hid (HQ.out.trans (((alloc_below wr _).trans (HB.out.mono (alloc_below wr _).size)).mono hsz))⟩
          case measure => simp [intOf]; omega
        · go_ret
          exact ⟨⟨false, rfl, fun h => by cases h⟩, HQ.out.trans (((alloc_below wr _).trans (HB.out.mono (alloc_below wr _).size)).mono hsz)⟩
      · obtain rfl : q = m := by omega
        go_wp2_with fail
        go_ret
        exact ⟨⟨true, rfl, fun _ => h⟩, HQ.out⟩
  · go_wp2_with fail
    go_ret
    exact ⟨⟨false, rfl, fun h => by cases h⟩, Below.refl _ _⟩
end Go.Proofs.YtiboiagimcgjkaaDoor
