/- A writer that holds lines back: the guard on the lines. -/
import Derived.Test.YtiboiagimcgjkaaDoorTriI
import Derived.BigQuiet
namespace Go.Proofs.YtiboiagimcgjkaaDoor
open Go.RowKit

set_option maxRecDepth 10000 in
theorem byte_at2 (s : ByteArray) (i : Nat) (hi : i < s.size) : ∃ y : Nat, (s.data.toList[i]?).map (·.toNat) = some y ∧ ∀ W, (Instr.index 9 (.string s) (.int .i64 (i : Int))).run Tryd.prog W = .ok (.int .u8 (y : Int)) W := by
  refine ⟨(s.data.toList[i]'(by simpa using hi)).toNat, by rw [List.getElem?_eq_getElem (by simpa using hi)]; rfl, fun W => ?_⟩
  rw [run_index_string W 9 s .i64 (i : Int) rfl, dif_pos ⟨by omega, by omega⟩]
  simp
  rfl
/-- The first z bytes hold no line feed but at the end. -/
def NL (l : List UInt8) (z : Nat) : Prop := ∀ j b, l[j]? = some b → j < z → (b = 10 ↔ j + 1 = l.length)
theorem nl_next {t : ByteArray} {z y : Nat} {c : Bool} (h : NL t.data.toList z) (hz : z < t.size) (hy : (t.data.toList[z]?).map (·.toNat) = some y) (h1 : ((y : Int) == 10) = c) (h2 : ((z : Int) == (t.size : Int) - 1) = c) : NL t.data.toList (z + 1) := by
  intro j b hb hj
  rcases Nat.lt_or_ge j z with hlt | hge
  · exact h j b hb hlt
  · obtain rfl : j = z := by omega
    rw [hb] at hy
    have hy : b.toNat = y := by simpa using hy
    have hl : t.data.toList.length = t.size := by simp
    have e1 : (b = 10) ↔ (((y : Int) == 10) = true) := by
      rw [beq_iff_eq, ← hy]
      constructor
      · rintro rfl; rfl
      · intro e
        have e' : b.toNat = 10 := by omega
        exact UInt8.toNat.inj e'
    rw [e1, h1, ← h2, beq_iff_eq, hl]
    omega
theorem line_of_nl {l : List UInt8} (h0 : l ≠ []) (h : NL l l.length) : Line l := by
  have hl : 0 < l.length := List.length_pos_iff.2 h0
  refine ⟨l.take (l.length - 1), ?_, fun b hb => ?_⟩
  · have hlast : l[l.length - 1]? = some (l[l.length - 1]'(by omega)) := List.getElem?_eq_getElem (by omega)
    have h10 := (h (l.length - 1) _ hlast (by omega)).2 (by omega)
    have := List.take_succ_eq_append_getElem (l := l) (i := l.length - 1) (by omega)
    rw [h10, show l.length - 1 + 1 = l.length by omega, List.take_length] at this
    exact this
  · obtain ⟨j, hj⟩ := List.getElem?_of_mem hb
    have hjl := (List.getElem?_eq_some_iff.1 hj).1
    rw [List.length_take] at hjl
    rw [List.getElem?_take_of_lt (by omega)] at hj
    intro e
    have := (h j b hj (by omega)).1 e
    omega
theorem pop_of {x : LineOp} {t : ByteArray} {lv : Int} (e1 : t = ⟨x.tx.toArray⟩) (e2 : lv = x.lv) (e3 : false = x.tr) (e4 : false = x.cl) (h1 : ¬ lv < -1) (h2 : ¬ 7 < lv) (h3 : t.toList.isEmpty = false) (h4 : ¬ (100 : Int) < t.size) (hn : NL t.data.toList t.size) : POp x := by
  have hd : t.data.toList = x.tx := by rw [e1]
  have hs : t.size = x.tx.length := by rw [e1]; show x.tx.toArray.size = _; simp
  rw [hd, hs] at hn
  rw [Lib.toList_data, hd] at h3
  refine ⟨e3.symm, e4.symm, line_of_nl (fun e => by rw [e] at h3; cases h3) hn, by omega, by omega, by omega⟩

set_option maxRecDepth 100000 in
set_option maxHeartbeats 4000000 in
/-- The guard lets at most 40 plain lines through. -/
theorem plain_full (m oc : Nat) (ap : Option Addr) (ops : Nat → LineOp) (w : World) (hop : OpsAt w ap m ops) (hm : m ≤ 1000000000000) :
    Calls Tryd.prog 7 #[.slice ap m oc] w fun e w' => Guard e (m ≤ 40 ∧ ∀ i, i < m → POp (ops i)) ∧ Below w.heap.size w w' := by
  have HO := Lib.hid hop
  clear hop
  go_enter Tryd.func7, Tryd.ntmps7
  go_wp2_with fail
  go_loopw [8] (fun i wr => ∃ q : Nat, i = .int .i64 q ∧ q ≤ m ∧ Hid ((∀ i, i < q → POp (ops i)) ∧ Below w.heap.size w wr)) (fun i _ => m - (intOf i).toNat)
  case atStart => exact ⟨0, rfl, Nat.zero_le _, Lib.hid ⟨fun i hi => absurd hi (by omega), Below.refl _ _⟩⟩
  case round =>
    obtain ⟨q, rfl, hq, HQ⟩ := hrel
    by_cases hqm : q < m
    · have hsz := HQ.out.2.size
      obtain ⟨tq, htq⟩ : ∃ t : ByteArray, t = ⟨(ops q).tx.toArray⟩ := ⟨_, rfl⟩
      obtain ⟨lq, hlq⟩ : ∃ x : Int, x = (ops q).lv := ⟨_, rfl⟩
      obtain ⟨tr, htr⟩ : ∃ x : Bool, x = (ops q).tr := ⟨_, rfl⟩
      obtain ⟨cl, hcl⟩ : ∃ x : Bool, x = (ops q).cl := ⟨_, rfl⟩
      obtain ⟨ob, oo, rfl, hob, hoq⟩ := HO.out q hqm
      have hx := op_below HQ.out.2 hob hoq
      clear hoq
      obtain ⟨x0, x1, x2, x3⟩ := hx
      unfold str at x1
      rw [← htq] at x1
      rw [← hlq] at x0
      rw [← htr] at x2
      rw [← hcl] at x3
      have HTQ := Lib.hid (And.intro htq (And.intro hlq (And.intro htr hcl)))
      clear htq hlq htr hcl
      have hend : Below w.heap.size w (wr.alloc (.cells #[.int .i64 lq, .string tq, .bool tr, .bool cl] 34)) := HQ.out.2.trans ((alloc_below wr _).mono hsz)
      have HEND := Lib.hid hend
      clear hend
      cases tr
      · cases cl
        · by_cases h1 : lq < -1
          · go_wp2_with fail
            go_ret
            exact ⟨Guard.no _, HEND.out⟩
          · by_cases h2 : lq > 7
            · go_wp2_with fail
              go_ret
              exact ⟨Guard.no _, HEND.out⟩
            · cases h3 : tq.toList.isEmpty
              · by_cases h4 : (100 : Int) < tq.size
                · go_wp2_with fail
                  go_ret
                  exact ⟨Guard.no _, HEND.out⟩
                · have h5 : decide ((100 : Int) < tq.size) = false := decide_eq_false h4
                  go_wp2_with fail
                  obtain ⟨wo, hwo⟩ : ∃ wo, wo = wr := ⟨_, rfl⟩
                  subst hwo
                  go_loopw [5] (fun i wx => ∃ z : Nat, i = .int .i64 z ∧ z ≤ tq.size ∧ Hid (NL tq.data.toList z) ∧ ∃ d : Nat, wx = (wo.alloc (.cells #[.int .i64 lq, .string tq, .bool false, .bool false] 34)).drewN d) (fun i _ => tq.size - (intOf i).toNat)
                  case atStart => exact ⟨0, rfl, Nat.zero_le _, Lib.hid (fun j _ _ h => absurd h (Nat.not_lt_zero j)), 0, rfl⟩
                  case round =>
                    obtain ⟨z, rfl, hz, HNL, d, rfl⟩ := hrel
                    by_cases hzt : z < tq.size
                    · obtain ⟨y, hyv, hy⟩ := byte_at2 tq z hzt
                      have HY := Lib.hid hyv
                      clear hyv
                      cases hy1 : ((y : Int) == 10)
                      · cases hz1 : ((z : Int) == tq.size - 1)
                        · go_wp2_with fail
                          go_quiet (fail)
                          go_wp2_with fail
                          have hnl := nl_next HNL.out hzt HY.out hy1 hz1
                          exact ⟨⟨z + 1, by go_num, by omega, Lib.hid (by simpa using hnl), _, rfl⟩, by simp [intOf]; omega⟩
                        · go_wp2_with fail
                          go_quiet (fail)
                          go_wp2_with fail
                          go_ret
                          exact ⟨Guard.no _, below_drewN (below_drewN HEND.out _) _⟩
                      · cases hz1 : ((z : Int) == tq.size - 1)
                        · go_wp2_with fail
                          go_quiet (fail)
                          go_wp2_with fail
                          go_ret
                          exact ⟨Guard.no _, below_drewN (below_drewN HEND.out _) _⟩
                        · go_wp2_with fail
                          go_quiet (fail)
                          go_wp2_with fail
                          have hnl := nl_next HNL.out hzt HY.out hy1 hz1
                          exact ⟨⟨z + 1, by go_num, by omega, Lib.hid (by simpa using hnl), _, rfl⟩, by simp [intOf]; omega⟩
                    · obtain rfl : z = tq.size := by omega
                      go_wp2_with fail
                      refine ⟨⟨q + 1, by go_num, by omega, Lib.hid ⟨fun i hi => ?_, below_drewN HEND.out _⟩⟩, by simp [intOf]; omega⟩
                      rcases Nat.lt_or_ge i q with h | h
                      · exact HQ.out.1 i h
                      · obtain rfl : i = q := by omega
                        obtain ⟨e1, e2, e3, e4⟩ := HTQ.out
                        exact pop_of e1 e2 e3 e4 (by omega) (by omega) h3 (by omega) HNL.out
              · go_wp2_with fail
                go_ret
                exact ⟨Guard.no _, HEND.out⟩
        · go_wp2_with fail
          go_ret
          exact ⟨Guard.no _, HEND.out⟩
      · go_wp2_with fail
        go_ret
        exact ⟨Guard.no _, HEND.out⟩
    · obtain rfl : q = m := by omega
      go_wp2_with fail
      go_ret
      refine ⟨⟨decide (q ≤ 40), ?_, fun h => ⟨of_decide_eq_true h, HQ.out.1⟩⟩, HQ.out.2⟩
      show Ending.returned (Value.bool (decide ((q : Int) ≤ 40))) = _
      congr 2
      exact decide_eq_decide.2 (by omega)
end Go.Proofs.YtiboiagimcgjkaaDoor
