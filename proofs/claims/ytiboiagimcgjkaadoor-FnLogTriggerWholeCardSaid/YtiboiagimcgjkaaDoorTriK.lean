/- A writer that holds lines back: the law of FnLogTriggerJoins walked. -/
import Derived.Test.YtiboiagimcgjkaaDoorTriJ
namespace Go.Proofs.YtiboiagimcgjkaaDoor
open Go.RowKit

theorem pop_cat {a b : Nat → LineOp} {ma mb : Nat} (h : ∀ i, i < ma + mb → POp (cat a ma b i)) : ∀ i, i < ma → POp (a i) := fun i hi => by
  have := h i (by omega)
  unfold cat at this
  rw [if_pos hi] at this
  exact this
theorem same_pre {w : World} {b1 b2 k n c1 c2 : Nat} {p1 p2 : Option Addr} {r1 r2 : List (List UInt8)} (h1 : w.ownsRow b1 9 1 (.slice p1 k c1) k (r1.map str)) (h2 : w.ownsRow b2 9 1 (.slice p2 n c2) n (r2.map str)) (hp : ∃ ys, r2 = r1 ++ ys) : SameTexts w p1 p2 k := by
  obtain ⟨ys, rfl⟩ := hp
  intro i hi
  have hl1 := h1.1
  have hl2 := h2.1
  rw [List.length_map] at hl1 hl2
  rw [List.length_append] at hl2
  obtain ⟨g1, e1, q1⟩ := text_cells h1 (by omega)
  obtain ⟨g2, e2, q2⟩ := text_cells h2 (by omega)
  have hr : r1[i]? = some r1[i] := List.getElem?_eq_getElem (by omega)
  exact ⟨g1, g2, _, e1, e2, q1 i _ hr, q2 i _ (by rw [List.getElem?_append_left (by omega)]; exact hr)⟩

set_option maxRecDepth 100000 in
set_option maxHeartbeats 8000000 in
theorem trijoins_walk (cond trig : Int) (ma ca mb cb : Nat) (ap bp : Option Addr) (a b : Nat → LineOp) (w : World)
    (ha : OpsAt w ap ma a) (hb : OpsAt w bp mb b) (hna : ap = none → ma = 0 ∧ ca = 0) (hnb : bp = none → mb = 0 ∧ cb = 0) (hE : Errs w) :
    Calls Tryd.prog 4 #[.int .i64 cond, .int .i64 trig, .slice ap ma ca, .slice bp mb cb] w fun e w' => e = .returned (.bool true) ∧ Below w.heap.size w w' := by
  have HA := Lib.hid (And.intro ha hna)
  have HB := Lib.hid (And.intro hb hnb)
  have c6a : Hid (Calls Tryd.prog 6 #[.slice ap ma ca] w fun e w' => Guard e (ma ≤ 2147483647) ∧ Below w.heap.size w w') := Lib.hid ((fits4_any ma ca ap a w ha).mono (by rintro e w' ⟨⟨r, h1, h2⟩, h3⟩; exact ⟨⟨r, h1, h2⟩, h3⟩))
  have c6b : Hid (∀ W, Below w.heap.size w W → Calls Tryd.prog 6 #[.slice bp mb cb] W fun e w' => Guard e (mb ≤ 2147483647) ∧ Below w.heap.size w w') := Lib.hid (fun W hW => (fits4_any mb cb bp b W (ops_below hW hb)).mono (by rintro e w' ⟨⟨r, h1, h2⟩, h3⟩; exact ⟨⟨r, h1, h2⟩, hW.trans (h3.mono hW.size)⟩))
  have hsz0 : ∀ W, Below w.heap.size w W → w.heap.size ≤ W.heap.size := fun W h => h.size
  have HSZ := Lib.hid hsz0
  clear ha hb hna hnb hsz0
  go_enter Tryd.func4, Tryd.ntmps4
  go_upto_region 1 with fail
  go_wp2_with fail
  (with_reducible refine c6a.out.mono ?_)
  rintro e w1 ⟨⟨ra, rfl, hra⟩, hb1⟩
  have H1 := Lib.hid hra
  clear hra
  cases ra
  · go_wp2_with fail
    go_ret
    exact ⟨rfl, hb1⟩
  · go_wp2_with fail
    (with_reducible refine (c6b.out _ hb1).mono ?_)
    rintro e w2 ⟨⟨rb, rfl, hrb⟩, hb2⟩
    have H2 := Lib.hid hrb
    clear hrb hb1
    cases rb
    · go_wp2_with fail
      go_ret
      exact ⟨rfl, hb2⟩
    · have hma2 : ma ≤ 2147483647 := by simpa using H1.out
      have hmb2 : mb ≤ 2147483647 := by simpa using H2.out
      clear H1 H2 c6a c6b
      have hsz2 := HSZ.out _ hb2
      have hbe : Below w.heap.size w (w2.alloc (.cells #[] 34)) := hb2.trans ((alloc_below w2 _).mono hsz2)
      go_wp2_with (first
        | (at_builtin; refine wpList_append_ops rfl _ _ rfl rfl w.heap.size 0 ma ca _ a a ap rfl rfl (own_empty w2 _ 34 4 hsz2) (ops_below hbe HA.out.1) HA.out.2 (by omega) (by omega) (HSZ.out _ hbe) ?_; intro v1 w3 ho1 hg1; have hb3 : Below w.heap.size w w3 := hbe.trans ((Keeps.of_grown hg1 (fun k hk => hk)).below (HSZ.out _ hbe) (fun k hk => (own_typed (own_empty w2 _ 34 4 hsz2) hk).2)); have H3 := Lib.hid ho1; clear ho1 hg1)
        | (at_builtin; refine wpList_append_ops rfl _ _ rfl rfl w.heap.size (0 + ma) mb cb _ _ b bp rfl rfl H3.out (ops_below hb3 HB.out.1) HB.out.2 (by omega) (by omega) (HSZ.out _ hb3) ?_; intro v2 w4 ho2 hg2; have hb4 : Below w.heap.size w w4 := hb3.trans ((Keeps.of_grown hg2 (fun k hk => hk)).below (HSZ.out _ hb3) (fun k hk => (own_typed H3.out hk).2)); obtain ⟨p2, k2, hv2, hp2⟩ := own_form ho2; subst hv2; have H4 := Lib.hid ho2; clear ho2 hg2))
      obtain ⟨tot, htot⟩ : ∃ t, t = 0 + ma + mb := ⟨_, rfl⟩
      have ho4 := ops_of_row H4.out
      rw [cat_zero, Nat.zero_add] at ho4
      rw [Nat.zero_add] at htot
      have ho5 : OpsAt w4 p2 tot (cat a ma b) := by rw [htot]; exact ho4
      have c7 : Calls Tryd.prog 7 #[.slice p2 tot k2] w4 fun e w' => Guard e (tot ≤ 40 ∧ ∀ i, i < tot → POp ((cat a ma b) i)) ∧ Below w4.heap.size w4 w' := plain_full tot k2 p2 (cat a ma b) w4 ho5 (by omega)
      have HO5 := Lib.hid ho5
      rw [htot] at c7
      have HT := Lib.hid htot
      clear ho4 ho5 htot
      refine c7.mono ?_
      rintro e w5 ⟨⟨rc, rfl, hrc⟩, hb45⟩
      have hb5 : Below w.heap.size w w5 := hb4.trans (hb45.mono (HSZ.out _ hb4))
      have H5 := Lib.hid hrc
      clear hrc c7
      cases rc
      · go_wp2_with fail
        go_ret
        exact ⟨rfl, hb5⟩
      · have h40 : ma + mb ≤ 40 ∧ ∀ i, i < ma + mb → POp ((cat a ma b) i) := by
          have := H5.out
          simpa using this
        obtain ⟨h40, hpop⟩ := h40
        have HPP := Lib.hid hpop
        clear hpop H5 H3 H4
        by_cases h1 : min cond trig < -1
        · go_wp2_with fail
          go_ret
          exact ⟨rfl, hb5⟩
        · by_cases h2 : 7 < max cond trig
          · go_wp2_with fail
            go_ret
            exact ⟨rfl, hb5⟩
          · have g1 : decide (min cond trig < -1) = false := decide_eq_false h1
            have g2 : decide (7 < max cond trig) = false := decide_eq_false h2
            have c11 : ∀ (m oc : Nat) (ap' : Option Addr) (ops : Nat → LineOp) (W : World), Below w.heap.size w W → m ≤ 41 → OpsAt W ap' m ops → (∀ i, i < m → TOp (ops i)) →
                Calls Tryd.prog 11 #[.int .i64 cond, .int .i64 trig, .slice ap' m oc] W fun e w' => TriEnd W (trun cond trig ops m).O e w' ∧ Below W.heap.size W w' := fun m oc ap' ops W hW hm hop hl => ltrigger_walk cond trig m oc ap' ops W (by omega) (by omega) (by omega) (by omega) hm hop hl
            have C11 := Lib.hid c11
            clear c11
            go_wp2_with fail
            refine (C11.out ma ca ap a w5 hb5 (by omega) (ops_below hb5 HA.out.1) (fun i hi => .inr (pop_cat HPP.out i hi))).mono ?_
            rintro e w6 ⟨⟨px, cx, rfl, hx⟩, hb56⟩
            have hb6 : Below w.heap.size w w6 := hb5.trans (hb56.mono (HSZ.out _ hb5))
            have ho6 : OpsAt w6 p2 (ma + mb) (cat a ma b) := by
              have h1 := HO5.out
              rw [HT.out] at h1
              exact ops_below hb56 (ops_below hb45 h1)
            have c2 := Lib.hid (C11.out (ma + mb) k2 p2 (cat a ma b) w6 hb6 (by omega) ho6 (fun i hi => .inr (HPP.out i hi)))
            have HX := Lib.hid hx
            clear hx ho6 C11
            go_wp2_with fail
            refine c2.out.mono ?_
            rintro e w7 ⟨⟨py, cy, rfl, hy⟩, hb67⟩
            have hb7 : Below w.heap.size w w7 := hb6.trans (hb67.mono (HSZ.out _ hb6))
            have hx7 := own_keep HX.out (Keeps.of_below hb67 (fun _ => False)) (fun _ _ => id)
            obtain ⟨ys, hys⟩ := trun_cat cond trig a b ma mb
            have hle : (trun cond trig a ma).O.length ≤ (trun cond trig (cat a ma b) (ma + mb)).O.length := by rw [hys, List.length_append]; omega
            have hlen := (held_run cond trig a ma (fun i hi => .inr (pop_cat HPP.out i hi))).2.2.1
            have hcap : (trun cond trig (cat a ma b) (ma + mb)).O.length ≤ cy := by
              rcases hy.2 with ⟨h0, _⟩ | ⟨g, cp, cur, he, _, _, hl, _⟩
              · injection h0 with _ h0 _
                omega
              · injection he with _ _ e3
                omega
            have hsame := same_pre hx7 hy ⟨ys, hys⟩
            obtain ⟨nx, hnx⟩ : ∃ n, n = (trun cond trig a ma).O.length := ⟨_, rfl⟩
            obtain ⟨ny, hny⟩ : ∃ n, n = (trun cond trig (cat a ma b) (ma + mb)).O.length := ⟨_, rfl⟩
            rw [← hnx, ← hny] at hle
            rw [← hnx] at hsame hlen
            rw [← hny] at hcap
            have c9 := texts_same nx cx cy px py w7 hsame (by omega)
            have C9 := Lib.hid c9
            rw [← hnx, ← hny]
            clear hx7 hy hys hsame c9 hnx hny c2 HX
            go_wp2_with fail
            refine C9.out.mono ?_
            rintro e w8 ⟨rfl, hb78⟩
            have hb8 : Below w.heap.size w w8 := hb7.trans (hb78.mono (HSZ.out _ hb7))
            go_wp2_with fail
            refine (awake_any w _ hb8 hE).mono ?_
            rintro e w9 ⟨rfl, hb9⟩
            go_wp2_with fail
            go_ret
            exact ⟨rfl, hb9⟩
end Go.Proofs.YtiboiagimcgjkaaDoor
