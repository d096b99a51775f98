/- Several writers: the law walked at more than six levels. -/
import Derived.Test.YtiboiagimcgjkaaDoorMulM
namespace Go.Proofs.YtiboiagimcgjkaaDoor
open Go.RowKit

set_option maxRecDepth 100000 in
set_option maxHeartbeats 4000000 in
theorem multijoins_wide (n lc ma ca mb cb : Nat) (lp ap bp : Option Addr) (a b : Nat → LineOp) (w : World) (hn6 : 6 < n) (hn : n ≤ 2147483647)
    (ha : OpsAt w ap ma a) (hb : OpsAt w bp mb b) (hna : ap = none → ma = 0 ∧ ca = 0) (hnb : bp = none → mb = 0 ∧ cb = 0)
    :
    Calls Tryd.prog 3 #[.slice lp n lc, .slice ap ma ca, .slice bp mb cb] w fun e w' => e = .returned (.bool true) ∧ Below w.heap.size w w' := by
  have HA := Lib.hid (And.intro ha hna)
  have HB := Lib.hid (And.intro hb hnb)
  have c6a : Hid (Calls Tryd.prog 6 #[.slice ap ma ca] w fun e w' => Guard e (ma ≤ 2147483647) ∧ Below w.heap.size w w') := Lib.hid ((fits4_any ma ca ap a w ha).mono (by rintro e w' ⟨⟨r, h1, h2⟩, h3⟩; exact ⟨⟨r, h1, h2⟩, h3⟩))
  have c6b : Hid (∀ W, Below w.heap.size w W → Calls Tryd.prog 6 #[.slice bp mb cb] W fun e w' => Guard e (mb ≤ 2147483647) ∧ Below w.heap.size w w') := Lib.hid (fun W hW => (fits4_any mb cb bp b W (ops_below hW hb)).mono (by rintro e w' ⟨⟨r, h1, h2⟩, h3⟩; exact ⟨⟨r, h1, h2⟩, hW.trans (h3.mono hW.size)⟩))
  have hsz0 : ∀ W, Below w.heap.size w W → w.heap.size ≤ W.heap.size := fun W h => h.size
  have HSZ := Lib.hid hsz0
  clear ha hb hna hnb hsz0
  go_enter Tryd.func3, Tryd.ntmps3
  go_upto_region 1 with fail
  go_wp2_with fail
  (with_reducible refine c6a.out.mono ?_)
  rintro e w1 ⟨⟨ra, rfl, hra⟩, hb1⟩
  have H1 := Lib.hid hra
  clear hra
  cases ra
  · go_wp2_with fail
    go_ret
    exact ⟨rfl, hb1⟩
  · go_wp2_with fail
    (with_reducible refine (c6b.out _ hb1).mono ?_)
    rintro e w2 ⟨⟨rb, rfl, hrb⟩, hb2⟩
    have H2 := Lib.hid hrb
    clear hrb hb1
    cases rb
    · go_wp2_with fail
      go_ret
      exact ⟨rfl, hb2⟩
    · have hma2 : ma ≤ 2147483647 := by simpa using H1.out
      have hmb2 : mb ≤ 2147483647 := by simpa using H2.out
      clear H1 H2 c6a c6b
      have hsz2 := HSZ.out _ hb2
      have hbe : Below w.heap.size w (w2.alloc (.cells #[] 34)) := hb2.trans ((alloc_below w2 _).mono hsz2)
      go_wp2_with (first
        | (at_builtin; refine wpList_append_ops rfl _ _ rfl rfl w.heap.size 0 ma ca _ a a ap rfl rfl (own_empty w2 _ 34 4 hsz2) (ops_below hbe HA.out.1) HA.out.2 (by omega) (by omega) (HSZ.out _ hbe) ?_; intro v1 w3 ho1 hg1; have hb3 : Below w.heap.size w w3 := hbe.trans ((Keeps.of_grown hg1 (fun k hk => hk)).below (HSZ.out _ hbe) (fun k hk => (own_typed (own_empty w2 _ 34 4 hsz2) hk).2)); have H3 := Lib.hid ho1; clear ho1 hg1)
        | (at_builtin; refine wpList_append_ops rfl _ _ rfl rfl w.heap.size (0 + ma) mb cb _ _ b bp rfl rfl H3.out (ops_below hb3 HB.out.1) HB.out.2 (by omega) (by omega) (HSZ.out _ hb3) ?_; intro v2 w4 ho2 hg2; have hb4 : Below w.heap.size w w4 := hb3.trans ((Keeps.of_grown hg2 (fun k hk => hk)).below (HSZ.out _ hb3) (fun k hk => (own_typed H3.out hk).2)); obtain ⟨p2, k2, hv2, hp2⟩ := own_form ho2; subst hv2; have H4 := Lib.hid ho2; clear ho2 hg2))
      obtain ⟨tot, htot⟩ : ∃ t, t = 0 + ma + mb := ⟨_, rfl⟩
      have ho4 := ops_of_row H4.out
      rw [cat_zero, Nat.zero_add] at ho4
      rw [Nat.zero_add] at htot
      have ho5 : OpsAt w4 p2 tot (cat a ma b) := by rw [htot]; exact ho4
      have c7 : Calls Tryd.prog 7 #[.slice p2 tot k2] w4 fun e w' => Guard e (tot ≤ 40 ∧ ∀ i, i < tot → ((cat a ma b) i).tx.length ≤ 100) ∧ Below w4.heap.size w4 w' := plain_any tot k2 p2 (cat a ma b) w4 ho5 (by omega)
      have HO5 := Lib.hid ho5
      rw [htot] at c7
      have HT := Lib.hid htot
      clear ho4 ho5 htot
      refine c7.mono ?_
      rintro e w5 ⟨⟨rc, rfl, hrc⟩, hb45⟩
      have hb5 : Below w.heap.size w w5 := hb4.trans (hb45.mono (HSZ.out _ hb4))
      have H5 := Lib.hid hrc
      clear hrc c7
      cases rc
      · go_wp2_with fail
        go_ret
        exact ⟨rfl, hb5⟩
      · go_wp2_with fail
        go_ret
        exact ⟨rfl, hb5⟩

set_option maxRecDepth 100000 in
set_option maxHeartbeats 4000000 in
theorem multijoins_huge (n lc : Nat) (lp : Option Addr) (a b : Value) (w : World) (hn : 2147483647 < n) :
    Calls Tryd.prog 3 #[.slice lp n lc, a, b] w fun e w' => e = .returned (.bool true) ∧ Below w.heap.size w w' := by
  go_enter Tryd.func3, Tryd.ntmps3
  go_wp2_with fail
  go_ret
  exact ⟨rfl, Below.refl _ _⟩

theorem multijoins_any (n lc ma ca mb cb : Nat) (lp ap bp : Option Addr) (lvs : Nat → Int) (a b : Nat → LineOp) (w : World)
    (ha : OpsAt w ap ma a) (hb : OpsAt w bp mb b) (hna : ap = none → ma = 0 ∧ ca = 0) (hnb : bp = none → mb = 0 ∧ cb = 0)
    (hl : LevAt w lp n lvs) (hE : Errs w) :
    Calls Tryd.prog 3 #[.slice lp n lc, .slice ap ma ca, .slice bp mb cb] w fun e w' => e = .returned (.bool true) ∧ Below w.heap.size w w' := by
  by_cases h1 : n ≤ 6
  · exact multijoins_walk n lc ma ca mb cb lp ap bp lvs a b w h1 ha hb hna hnb hl hE
  · by_cases h2 : n ≤ 2147483647
    · exact multijoins_wide n lc ma ca mb cb lp ap bp a b w (by omega) h2 ha hb hna hnb
    · exact multijoins_huge n lc lp _ _ w (by omega)
end Go.Proofs.YtiboiagimcgjkaaDoor
