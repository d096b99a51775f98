/- Several writers: the law's guard on the lines. -/
import Derived.Test.YtiboiagimcgjkaaDoorMulG
import Derived.BigQuiet
namespace Go.Proofs.YtiboiagimcgjkaaDoor
open Go.RowKit

set_option maxRecDepth 10000 in
theorem byte_at (s : ByteArray) (i : Nat) (hi : i < s.size) : ∃ y : Nat, ∀ W, (Instr.index 9 (.string s) (.int .i64 (i : Int))).run Tryd.prog W = .ok (.int .u8 (y : Int)) W := by
  refine ⟨(s.data.toList[i]'(by simpa using hi)).toNat, fun W => ?_⟩
  rw [run_index_string W 9 s .i64 (i : Int) rfl, dif_pos ⟨by omega, by omega⟩]
  simp
  rfl

theorem below_drewN {B : Nat} {a w : World} (h : Below B a w) (n : Nat) : Below B a (w.drewN n) := h.trans ⟨rfl, rfl, rfl, Nat.le_refl _, fun _ _ => rfl⟩
/-- A Bool is handed back; at `true` something holds. -/
def Guard (e : Ending) (P : Prop) : Prop := ∃ b : Bool, e = .returned (.bool b) ∧ (b = true → P)
theorem Guard.no (P : Prop) : Guard (.returned (.bool false)) P := ⟨false, rfl, fun h => by cases h⟩

set_option maxRecDepth 100000 in
set_option maxHeartbeats 4000000 in
/-- The guard lets at most 40 lines through, each of at most 100 bytes. -/
theorem plain_any (m oc : Nat) (ap : Option Addr) (ops : Nat → LineOp) (w : World) (hop : OpsAt w ap m ops) (hm : m ≤ 1000000000000) :
    Calls Tryd.prog 7 #[.slice ap m oc] w fun e w' => Guard e (m ≤ 40 ∧ ∀ i, i < m → (ops i).tx.length ≤ 100) ∧ Below w.heap.size w w' := by
  have HO := Lib.hid hop
  clear hop
  go_enter Tryd.func7, Tryd.ntmps7
  go_wp2_with fail
  go_loopw [8] (fun i wr => ∃ q : Nat, i = .int .i64 q ∧ q ≤ m ∧ Hid ((∀ i, i < q → (ops i).tx.length ≤ 100) ∧ Below w.heap.size w wr)) (fun i _ => m - (intOf i).toNat)
  case atStart => exact ⟨0, rfl, Nat.zero_le _, Lib.hid ⟨fun i hi => absurd hi (by omega), Below.refl _ _⟩⟩
  case round =>
    obtain ⟨q, rfl, hq, HQ⟩ := hrel
    by_cases hqm : q < m
    · have hsz := HQ.out.2.size
      obtain ⟨tq, htq⟩ : ∃ t : ByteArray, t = ⟨(ops q).tx.toArray⟩ := ⟨_, rfl⟩
      obtain ⟨lq, hlq⟩ : ∃ x : Int, x = (ops q).lv := ⟨_, rfl⟩
      obtain ⟨tr, htr⟩ : ∃ x : Bool, x = (ops q).tr := ⟨_, rfl⟩
      obtain ⟨cl, hcl⟩ : ∃ x : Bool, x = (ops q).cl := ⟨_, rfl⟩
      obtain ⟨ob, oo, rfl, hob, hoq⟩ := HO.out q hqm
      have hx := op_below HQ.out.2 hob hoq
      clear hoq
      obtain ⟨x0, x1, x2, x3⟩ := hx
      unfold str at x1
      rw [← htq] at x1
      rw [← hlq] at x0
      rw [← htr] at x2
      rw [← hcl] at x3
      have HTQ : Hid (tq.size = (ops q).tx.length) := Lib.hid (by rw [htq]; show (ops q).tx.toArray.size = _; simp)
      clear htq hlq htr hcl
      have hend : Below w.heap.size w (wr.alloc (.cells #[.int .i64 lq, .string tq, .bool tr, .bool cl] 34)) := HQ.out.2.trans ((alloc_below wr _).mono hsz)
      have HEND := Lib.hid hend
      clear hend
      cases tr
      · cases cl
        · by_cases h1 : lq < -1
          · go_wp2_with fail
            go_ret
            exact ⟨Guard.no _, HEND.out⟩
          · by_cases h2 : lq > 7
            · go_wp2_with fail
              go_ret
              exact ⟨Guard.no _, HEND.out⟩
            · cases h3 : tq.toList.isEmpty
              · by_cases h4 : (100 : Int) < tq.size
                · go_wp2_with fail
                  go_ret
                  exact ⟨Guard.no _, HEND.out⟩
                · have h5 : decide ((100 : Int) < tq.size) = false := decide_eq_false h4
                  go_wp2_with fail
                  obtain ⟨wo, hwo⟩ : ∃ wo, wo = wr := ⟨_, rfl⟩
                  subst hwo
                  go_loopw [5] (fun i wx => ∃ z : Nat, i = .int .i64 z ∧ z ≤ tq.size ∧ ∃ d : Nat, wx = (wo.alloc (.cells #[.int .i64 lq, .string tq, .bool false, .bool false] 34)).drewN d) (fun i _ => tq.size - (intOf i).toNat)
                  case atStart => exact ⟨0, rfl, Nat.zero_le _, 0, rfl⟩
                  case round =>
                    obtain ⟨z, rfl, hz, d, rfl⟩ := hrel
                    by_cases hzt : z < tq.size
                    · obtain ⟨y, hy⟩ := byte_at tq z hzt
                      cases hy1 : ((y : Int) == 10)
                      · cases hz1 : ((z : Int) == tq.size - 1)
                        · go_wp2_with fail
                          go_quiet (fail)
                          go_wp2_with fail
                          exact ⟨⟨z + 1, by go_num, by omega, _, rfl⟩, by simp [intOf]; omega⟩
                        · go_wp2_with fail
                          go_quiet (fail)
                          go_wp2_with fail
                          go_ret
                          exact ⟨Guard.no _, below_drewN (below_drewN HEND.out _) _⟩
                      · cases hz1 : ((z : Int) == tq.size - 1)
                        · go_wp2_with fail
                          go_quiet (fail)
                          go_wp2_with fail
                          go_ret
                          exact ⟨Guard.no _, below_drewN (below_drewN HEND.out _) _⟩
                        · go_wp2_with fail
                          go_quiet (fail)
                          go_wp2_with fail
                          exact ⟨⟨z + 1, by go_num, by omega, _, rfl⟩, by simp [intOf]; omega⟩
                    · obtain rfl : z = tq.size := by omega
                      go_wp2_with fail
                      refine ⟨⟨q + 1, by go_num, by omega, Lib.hid ⟨fun i hi => ?_, below_drewN HEND.out _⟩⟩, by simp [intOf]; omega⟩
                      rcases Nat.lt_or_ge i q with h | h
                      · exact HQ.out.1 i h
                      · obtain rfl : i = q := by omega
                        have := HTQ.out
                        omega
              · go_wp2_with fail
                go_ret
                exact ⟨Guard.no _, HEND.out⟩
        · go_wp2_with fail
          go_ret
          exact ⟨Guard.no _, HEND.out⟩
      · go_wp2_with fail
        go_ret
        exact ⟨Guard.no _, HEND.out⟩
    · obtain rfl : q = m := by omega
      go_wp2_with fail
      go_ret
      refine ⟨⟨decide (q ≤ 40), ?_, fun h => ⟨of_decide_eq_true h, HQ.out.1⟩⟩, HQ.out.2⟩
      show Ending.returned (Value.bool (decide ((q : Int) ≤ 40))) = _
      congr 2
      exact decide_eq_decide.2 (by omega)
end Go.Proofs.YtiboiagimcgjkaaDoor
