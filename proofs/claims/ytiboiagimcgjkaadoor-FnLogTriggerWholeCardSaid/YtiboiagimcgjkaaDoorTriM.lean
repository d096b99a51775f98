/- A writer that holds lines back: the law of FnLogTriggerWhole walked. -/
import Derived.Test.YtiboiagimcgjkaaDoorTriL
import Derived.Deep.DeepCutAuto
import Derived.Deep.RegionHeld3
namespace Go.Proofs.YtiboiagimcgjkaaDoor
open Go.RowKit

def endTx : List UInt8 := [101, 110, 100, 10]
theorem above_snoc_yes {cond : Int} {ops : Nat → LineOp} {q : Nat} (h : cond < (ops q).lv) : aboveOf cond ops (q + 1) = aboveOf cond ops q ++ [(ops q).tx] := by
  simp only [aboveOf]
  rw [if_pos h]
theorem above_snoc_no {cond : Int} {ops : Nat → LineOp} {q : Nat} (h : ¬ cond < (ops q).lv) : aboveOf cond ops (q + 1) = aboveOf cond ops q := by
  simp only [aboveOf]
  rw [if_neg h]

theorem step_append_ops {w : World} {ops : Array Oper} {o : Oper} {a : Act} {K : Act → World → Prop} {Q : Exit → Act → World → Prop} {E : Prop} (hgd : o.guard = none) (s x : Operand)
    (ho : o.op = .call { callee := .builtin .append, args := #[s, x], argTypes := #[23, 23] }) (hty : o.type = 23) (base n m c : Nat) (v : Value) (la lb : Nat → LineOp) (ap : Option Addr) (hs : a.eval s = v) (hx : a.eval x = .slice ap m c)
    (hown : w.ownsRow base 34 4 v n (opCells la n)) (hop : OpsAt w ap m lb) (hnil : ap = none → m = 0 ∧ c = 0) (hn : n ≤ 10000000000) (hm : m ≤ 10000000000) (hbase : base ≤ w.heap.size)
    (h : ∀ v' w', w'.ownsRow base 34 4 v' (n + m) (opCells (cat la n lb) (n + m)) → w.grownBy w' v.ownBlock → K (a.put o.dst v') w') :
    if Region.wanted o (yielded ops a.tmps) = true then Oper.wp Tryd.prog o a w K Q else E := by
  obtain ⟨v', w', hr, h2, h3⟩ := append_ops w base n m c v la lb ap hown hop hnil hn hm hbase
  exact step_app hgd s x 23 ho v (.slice ap m c) v' hs hx (by rw [hty]; exact hr) (h v' w' h2 h3)

theorem top_end (trig : Int) (h1 : -1 ≤ trig) (h2 : trig ≤ 7) : TOp ⟨trig, endTx, false, false⟩ :=
  .inr ⟨rfl, rfl, ⟨[101, 110, 100], rfl, by decide⟩, (by show endTx.length ≤ 100; decide), h1, h2⟩
theorem ne_own {g k n c : Nat} (h : g ≠ k) : (Value.slice (some ⟨g, 0, none⟩) n c).ownBlock ≠ some k := fun e => h (by injection e)
theorem le_own {g k n c b : Nat} (h : b ≤ g) (e : (Value.slice (some ⟨g, 0, none⟩) n c).ownBlock = some k) : b ≤ k := by
  injection e with e
  rw [← e]
  exact h
theorem trun_last (cond trig : Int) (ops : Nat → LineOp) (z : LineOp) (q : Nat) : trun cond trig (cat ops q (fun _ => z)) (q + 1) = tstep cond trig (trun cond trig ops q) z := by
  show tstep cond trig (trun cond trig (cat ops q (fun _ => z)) q) (cat ops q (fun _ => z) q) = _
  rw [trun_pre (b := ops) q (fun i hi => by simp [cat, hi])]
  simp [cat]
theorem own_lt {w : World} {base e size n : Nat} {v : Value} {xs : List Value} (h : w.ownsRow base e size v n xs) {g : Nat} (hg : v.ownBlock = some g) : g < w.heap.size := (own_typed h hg).1.lt
theorem count_next {l : List (List UInt8)} {j : Nat} {y : List UInt8} (x : List UInt8) (h : l[j]? = some y) : (l.take (j + 1)).count x = (l.take j).count x + if y = x then 1 else 0 := by
  have hj := (List.getElem?_eq_some_iff.1 h).1
  have hy : l[j] = y := Option.some.inj ((List.getElem?_eq_getElem hj).symm.trans h)
  rw [List.take_succ_eq_append_getElem hj, List.count_append, hy, List.count_singleton]
  congr 1
  by_cases e : y = x
  · rw [if_pos e, if_pos (by simpa using e)]
  · rw [if_neg e, if_neg (by simpa using e)]
theorem count_le (l : List (List UInt8)) (j : Nat) (x : List UInt8) : (l.take j).count x ≤ j := Nat.le_trans List.count_le_length (by rw [List.length_take]; omega)
theorem str_same (a : List UInt8) : (((⟨a.toArray⟩ : ByteArray).toList == (⟨a.toArray⟩ : ByteArray).toList) = true) := by simp
/-- One line in a block of its own. -/
def opRow (z : LineOp) : Obj := .cells #[.int .i64 z.lv, str z.tx, .bool z.tr, .bool z.cl] 34
theorem op_new (w : World) (z : LineOp) (n : Nat) (hn : w.heap.size = n) : OpsAt (w.alloc (opRow z)) (some ⟨n, 0, none⟩) 1 (fun _ => z) := fun i hi => by
  subst hn
  obtain rfl : i = 0 := by omega
  have h : Whole (w.alloc (opRow z)) w.heap.size 34 #[.int .i64 z.lv, str z.tx, .bool z.tr, .bool z.cl] := Whole.new w 34 _
  exact ⟨w.heap.size, 0, rfl, h.lt, h.cell 0, h.cell 1, h.cell 2, h.cell 3⟩
theorem ops_alloc {w : World} {p : Option Addr} {n : Nat} {f : Nat → LineOp} (h : OpsAt w p n f) (o : Obj) : OpsAt (w.alloc o) p n f := ops_below (alloc_below w o) h
theorem ops_grown {w w' : World} {g n : Nat} {f : Nat → LineOp} {row : Option Nat} (h : OpsAt w (some ⟨g, 0, none⟩) n f) (k : w.grownBy w' row) (hne : row ≠ some g) : OpsAt w' (some ⟨g, 0, none⟩) n f := fun i hi => by
  obtain ⟨b, o, he, hlt, h0, h1, h2, h3⟩ := h i hi
  have hbg : b = g := by injection he with he; injection he with he; exact he.symm
  have hne' : some b ≠ row := by rw [hbg]; exact Ne.symm hne
  exact ⟨b, o, he, Nat.lt_of_lt_of_le hlt k.size, (k.cell_far (a := ⟨b, o + i * 4, none⟩) hlt hne').trans h0, (k.cell_far (a := ⟨b, o + i * 4 + 1, none⟩) hlt hne').trans h1, (k.cell_far (a := ⟨b, o + i * 4 + 2, none⟩) hlt hne').trans h2, (k.cell_far (a := ⟨b, o + i * 4 + 3, none⟩) hlt hne').trans h3⟩
theorem own_empty' (w : World) (base : Nat) (e : TypeId) (size n : Nat) (hb : base ≤ w.heap.size) (hn : w.heap.size = n) : (w.alloc (.cells #[] e)).ownsRow base e size (.slice (some ⟨n, 0, none⟩) 0 0) 0 [] := by
  subst hn
  exact own_empty w base e size hb
/-- The run of lines and one more, in new memory; what LTrigger makes of it. -/
theorem call_last (cond trig : Int) (q k2 : Nat) (p2 : Option Addr) (ops : Nat → LineOp) (z : LineOp) (w6 w8 : World) (hc : -1 ≤ cond ∧ cond ≤ 7 ∧ -1 ≤ trig ∧ trig ≤ 7) (hq : q ≤ 40) (hpp : ∀ i, i < q → POp (ops i)) (hz : TOp z) (hown : w8.ownsRow w6.heap.size 34 4 (.slice p2 (0 + q + 1) k2) (0 + q + 1) (opCells (cat (cat ops 0 ops) (0 + q) (fun _ => z)) (0 + q + 1))) (hb : Below w6.heap.size w6 w8) :
    Calls Tryd.prog 11 #[.int .i64 cond, .int .i64 trig, .slice p2 (q + 1) k2] w8 fun e w' => ∃ v, e = .returned v ∧ Hid (∃ p c, v = .slice p (trun cond trig (cat ops q (fun _ => z)) (q + 1)).O.length c ∧ w'.ownsRow w6.heap.size 9 1 v (trun cond trig (cat ops q (fun _ => z)) (q + 1)).O.length ((trun cond trig (cat ops q (fun _ => z)) (q + 1)).O.map str) ∧ Below w6.heap.size w6 w') := by
  have hop := ops_of_row hown
  rw [cat_zero, Nat.zero_add] at hop
  refine (ltrigger_walk cond trig (q + 1) k2 p2 (cat ops q (fun _ => z)) w8 hc.1 hc.2.1 hc.2.2.1 hc.2.2.2 (by omega) hop (fun i hi => ?_)).mono ?_
  · unfold cat
    split
    · exact .inr (hpp i (by assumption))
    · exact hz
  · rintro e w' ⟨⟨p, c, rfl, ho⟩, hb'⟩
    exact ⟨_, rfl, Lib.hid ⟨p, c, rfl, own_base ho hb.size, hb.trans (hb'.mono hb.size)⟩⟩

set_option maxRecDepth 100000 in
set_option maxHeartbeats 8000000 in
theorem triwhole_walk (cond trig : Int) (m oc : Nat) (ap : Option Addr) (ops : Nat → LineOp) (called : Bool) (w : World)
    (ha : OpsAt w ap m ops) (hna : ap = none → m = 0 ∧ oc = 0) (hE : Errs w) :
    Calls Tryd.prog 5 #[.int .i64 cond, .int .i64 trig, .slice ap m oc, .bool called] w fun e w' => e = .returned (.bool true) ∧ Below w.heap.size w w' := by
  obtain ⟨i0, hi0, hz0, hz1, hz2⟩ := info_parts Tryd.info9
  have HA := Lib.hid (And.intro ha hna)
  have c6a : Hid (Calls Tryd.prog 6 #[.slice ap m oc] w fun e w' => Guard e (m ≤ 2147483647) ∧ Below w.heap.size w w') := Lib.hid ((fits4_any m oc ap ops w ha).mono (by rintro e w' ⟨⟨r, h1, h2⟩, h3⟩; exact ⟨⟨r, h1, h2⟩, h3⟩))
  have hsz0 : ∀ W, Below w.heap.size w W → w.heap.size ≤ W.heap.size := fun W h => h.size
  have HSZ := Lib.hid hsz0
  clear ha hna hsz0
  go_enter Tryd.func5, Tryd.ntmps5
  go_upto_region 1 with fail
  go_wp2_with fail
  (with_reducible refine c6a.out.mono ?_)
  rintro e w1 ⟨⟨ra, rfl, hra⟩, hb1⟩
  have H1 := Lib.hid hra
  clear hra
  cases ra
  · go_wp2_with fail
    go_ret
    exact ⟨rfl, hb1⟩
  · have hm2 : m ≤ 2147483647 := by simpa using H1.out
    clear H1 c6a
    have c7 : Calls Tryd.prog 7 #[.slice ap m oc] w1 fun e w' => Guard e (m ≤ 40 ∧ ∀ i, i < m → POp (ops i)) ∧ Below w1.heap.size w1 w' := plain_full m oc ap ops w1 (ops_below hb1 HA.out.1) (by omega)
    have C7 := Lib.hid c7
    clear c7
    go_wp2_with fail
    refine C7.out.mono ?_
    rintro e w2 ⟨⟨rc, rfl, hrc⟩, hb12⟩
    have hb2 : Below w.heap.size w w2 := hb1.trans (hb12.mono (HSZ.out _ hb1))
    have H2 := Lib.hid hrc
    clear hrc C7
    cases rc
    · go_wp2_with fail
      go_ret
      exact ⟨rfl, hb2⟩
    · have hpop : m ≤ 40 ∧ ∀ i, i < m → POp (ops i) := by simpa using H2.out
      obtain ⟨hm40, hpop⟩ := hpop
      have HPP := Lib.hid hpop
      clear hpop H2
      by_cases h1 : min cond trig < -1
      · go_wp2_with fail
        go_ret
        exact ⟨rfl, hb2⟩
      · by_cases h2 : 7 < max cond trig
        · go_wp2_with fail
          go_ret
          exact ⟨rfl, hb2⟩
        · have g1 : decide (min cond trig < -1) = false := decide_eq_false h1
          have g2 : decide (7 < max cond trig) = false := decide_eq_false h2
          by_cases h39 : 39 < m
          · go_wp2_with fail
            go_ret
            exact ⟨rfl, hb2⟩
          · have bnd : -1 ≤ cond ∧ cond ≤ 7 ∧ -1 ≤ trig ∧ trig ≤ 7 := by omega
            have BND := Lib.hid bnd
            clear bnd
            go_wp2_with fail
            go_loopw [9, 45] (fun v i wr => ∃ q n : Nat, i = .int .i64 q ∧ q ≤ m ∧ Hid (n = (aboveOf cond ops q).length ∧ wr.ownsRow w.heap.size 9 1 v n ((aboveOf cond ops q).map str) ∧ Below w.heap.size w wr)) (fun _ i _ => m - (intOf i).toNat)
            case atStart => exact ⟨0, 0, rfl, Nat.zero_le _, Lib.hid ⟨rfl, ⟨rfl, .inl ⟨rfl, rfl⟩⟩, hb2⟩⟩
            case round =>
              obtain ⟨q, n, rfl, hq, HQ⟩ := hrel
              by_cases hqm : q < m
              · have hbr := HQ.out.2.2
                have hsz := HSZ.out _ hbr
                have hn40 : n ≤ 40 := by
                  rw [HQ.out.1]
                  exact Nat.le_trans (aboveOf_len cond ops q) (by omega)
                obtain ⟨tq, htq⟩ : ∃ t : ByteArray, t = ⟨(ops q).tx.toArray⟩ := ⟨_, rfl⟩
                obtain ⟨lq, hlq⟩ : ∃ x : Int, x = (ops q).lv := ⟨_, rfl⟩
                obtain ⟨gb, go, rfl, hob, hoq⟩ := HA.out.1 q hqm
                have hx := op_below hbr hob hoq
                clear hoq
                obtain ⟨x0, x1, x2, x3⟩ := hx
                unfold str at x1
                rw [← htq] at x1
                rw [← hlq] at x0
                generalize (ops q).tr = tr at x2
                generalize (ops q).cl = cl at x3
                have HTQ := Lib.hid (And.intro htq hlq)
                clear htq hlq
                by_cases hgt : cond < lq
                · go_wp2_with (first | (at_builtin; refine wpList_append_lies _ rfl _ _ 28 rfl w.heap.size 9 i0 _ 1 16 Tryd.underlying28 hi0 hz0 hz1 hz2 rfl (by omega) _ n _ rfl ((HQ.out.2.1.alloc _).alloc _) ⟨wr.heap.size + 1, 0, none⟩ 1 1 [.string tq] rfl rfl (World.news_of_block (cs := #[.string tq]) (t := 9) (fr := (0, 0)) (alloc_two wr _ _)) (by simp [Value.oneCell']) (by omega) (by unfold maxLen; omega) (by omega) (by simp; omega) (wr.heap.size + 2) (by simp) ?_; intro g3 cap3 w3 hown3 hgrow3 hat3 hlt3; have H3 := Lib.hid (And.intro hown3 hgrow3); clear hown3 hgrow3 hat3))
                  go_roundw
                  case rel =>
                    obtain ⟨hown3, hgrow3⟩ := H3.out
                    have k3 : Keeps (fun g => w.heap.size ≤ g) wr w3 := (((Keeps.refl _ wr).alloc _).alloc _).trans (Keeps.of_grown hgrow3 (fun k hk => (own_typed HQ.out.2.1 hk).2))
                    have hab := above_snoc_yes (cond := cond) (ops := ops) (q := q) (by rw [← HTQ.out.2]; exact hgt)
                    refine ⟨q + 1, n + 1, by go_num, by omega, Lib.hid ⟨?_, ?_, hbr.trans (k3.below hsz (fun _ h => h))⟩⟩
                    · rw [hab, List.length_append, ← HQ.out.1]
                      rfl
                    · have : (aboveOf cond ops (q + 1)).map str = (aboveOf cond ops q).map str ++ [.string tq] := by
                        rw [hab, List.map_append, HTQ.out.1]
                        rfl
                      rw [this]
                      exact hown3
                  case measure => simp [intOf]; omega
                · go_wp2_with fail
                  go_roundw
                  case rel =>
                    have hab := above_snoc_no (cond := cond) (ops := ops) (q := q) (by rw [← HTQ.out.2]; exact hgt)
                    refine ⟨q + 1, n, by go_num, by omega, Lib.hid ⟨?_, ?_, hbr.trans ((alloc_below wr _).mono hsz)⟩⟩
                    · rw [hab]
                      exact HQ.out.1
                    · rw [hab]
                      exact HQ.out.2.1.alloc _
                  case measure => simp [intOf]; omega
              · obtain rfl : q = m := by omega
                have hb3 := HQ.out.2.2
                obtain ⟨pa, ka, hva, _⟩ := own_form HQ.out.2.1
                subst hva
                have c11 := ltrigger_walk cond trig q oc ap ops wr (by have := BND.out; omega) (by have := BND.out; omega) (by have := BND.out; omega) (by have := BND.out; omega) (by omega) (ops_below hb3 HA.out.1) (fun i hi => .inr (HPP.out i hi))
                have C11 := Lib.hid c11
                clear c11
                go_wp2_with fail
                refine C11.out.mono ?_
                rintro e w4 ⟨⟨px, cx, rfl, hx⟩, hb34⟩
                have hb4 : Below w.heap.size w w4 := hb3.trans (hb34.mono (HSZ.out _ hb3))
                have hown4 := own_keep HQ.out.2.1 (Keeps.of_below hb34 (fun _ => False)) (fun _ _ => id)
                have hl40 := (held_run cond trig ops q (fun i hi => .inr (HPP.out i hi))).2.2.1
                have c12 := within_yes (aboveOf cond ops q) (trun cond trig ops q).O pa px n ka (trun cond trig ops q).O.length cx w4 (texts_of_own hown4) (texts_of_own hx) HQ.out.1.symm rfl (above_within cond trig ops q (fun i hi => (HPP.out i hi).1)) (by omega)
                have C12 := Lib.hid c12
                clear c12 hown4 hx C11
                go_wp2_with fail
                refine C12.out.mono ?_
                rintro e w5 ⟨rfl, hb45⟩
                have hb5 : Below w.heap.size w w5 := hb4.trans (hb45.mono (HSZ.out _ hb4))
                clear C12
                cases called
                · go_upto_region 17 with fail
                  obtain ⟨w6, hw6⟩ : ∃ w6, w6 = w5.alloc (.cells #[.int .i64 trig, .string ⟨#[101, 110, 100, 10]⟩, .bool false, .bool false] 34) := ⟨_, rfl⟩
                  rw [← hw6]
                  have hnew : Whole w6 w5.heap.size 34 #[.int .i64 trig, .string ⟨#[101, 110, 100, 10]⟩, .bool false, .bool false] := by rw [hw6]; exact Whole.new w5 34 _
                  have k6 : Keeps (fun _ => False) w5 w6 := by rw [hw6]; exact (Keeps.refl _ w5).alloc _
                  have HZ := Lib.hid (And.intro hnew k6)
                  clear hnew k6 hw6
                  obtain ⟨z, hz⟩ : ∃ z : LineOp, z = ⟨trig, endTx, false, false⟩ := ⟨_, rfl⟩
                  have hrow : Obj.cells #[.int .i64 trig, .string ⟨#[101, 110, 100, 10]⟩, .bool false, .bool false] 34 = opRow z := by rw [hz]; rfl
                  have HROW := Lib.hid hrow
                  have HZZ := Lib.hid hz
                  clear hrow hz
                  go_cut [13] (fun v W => Hid (∃ p c, v = .slice p (trun cond trig (cat ops q (fun _ => z)) (q + 1)).O.length c ∧ W.ownsRow w6.heap.size 9 1 v (trun cond trig (cat ops q (fun _ => z)) (q + 1)).O.length ((trun cond trig (cat ops q (fun _ => z)) (q + 1)).O.map str) ∧ Below w6.heap.size w6 W))
                  case first =>
                    have z0 : w6.cell? ⟨w5.heap.size, 0, none⟩ = some (.int .i64 trig) := HZ.out.1.cell 0
                    have z1 : w6.cell? ⟨w5.heap.size, 1, none⟩ = some (.string ⟨#[101, 110, 100, 10]⟩) := HZ.out.1.cell 1
                    have z2 : w6.cell? ⟨w5.heap.size, 2, none⟩ = some (.bool false) := HZ.out.1.cell 2
                    have z3 : w6.cell? ⟨w5.heap.size, 3, none⟩ = some (.bool false) := HZ.out.1.cell 3
                    have hzl := HZ.out.1.lt
                    have hcell : ∀ W, Below w6.heap.size w6 W → W.cell? ⟨w5.heap.size, 0, none⟩ = some (.int .i64 trig) ∧ W.cell? ⟨w5.heap.size, 1, none⟩ = some (.string ⟨#[101, 110, 100, 10]⟩) ∧ W.cell? ⟨w5.heap.size, 2, none⟩ = some (.bool false) ∧ W.cell? ⟨w5.heap.size, 3, none⟩ = some (.bool false) := fun W hW => ⟨(hW.cell (p := ⟨w5.heap.size, 0, none⟩) hzl).trans z0, (hW.cell (p := ⟨w5.heap.size, 1, none⟩) hzl).trans z1, (hW.cell (p := ⟨w5.heap.size, 2, none⟩) hzl).trans z2, (hW.cell (p := ⟨w5.heap.size, 3, none⟩) hzl).trans z3⟩
                    have HC := Lib.hid hcell
                    clear hcell
                    have hA : Below w6.heap.size w6 (w6.alloc (.cells #[] 34)).drew := ((Keeps.refl (fun _ => False) w6).alloc _).drew.below (Nat.le_refl _) (fun _ h => h.elim)
                    have hAD : Below w6.heap.size w6 ((w6.alloc (.cells #[] 34)).alloc (opRow z)).drew := (((Keeps.refl (fun _ => False) w6).alloc _).alloc _).drew.below (Nat.le_refl _) (fun _ h => h.elim)
                    have hDA : Below w6.heap.size w6 ((w6.alloc (opRow z)).alloc (.cells #[] 34)).drew := (((Keeps.refl (fun _ => False) w6).alloc _).alloc _).drew.below (Nat.le_refl _) (fun _ h => h.elim)
                    have hb6 : Below w.heap.size w w6 := hb5.trans (HZ.out.2.below (HSZ.out _ hb5) (fun _ h => h.elim))
                    have ho6 : ∀ W, Below w6.heap.size w6 W → OpsAt W ap q ops := fun W hW => ops_below hW (ops_below hb6 HA.out.1)
                    have HO6 := Lib.hid ho6
                    have hnw : ∀ W : World, OpsAt (W.alloc (.cells #[.int .i64 trig, .string ⟨#[101, 110, 100, 10]⟩, .bool false, .bool false] 34)) (some ⟨W.heap.size, 0, none⟩) 1 (fun _ => z) := fun W => by rw [HROW.out]; exact op_new W z _ rfl
                    have HN := Lib.hid hnw
                    have htz : TOp z := by rw [HZZ.out]; exact top_end trig BND.out.2.2.1 BND.out.2.2.2
                    have HTZ := Lib.hid htz
                    have hAD' : Below w6.heap.size w6 ((w6.alloc (.cells #[] 34)).alloc (.cells #[.int .i64 trig, .string ⟨#[101, 110, 100, 10]⟩, .bool false, .bool false] 34)).drew := by rw [HROW.out]; exact hAD
                    have hDA' : Below w6.heap.size w6 ((w6.alloc (.cells #[.int .i64 trig, .string ⟨#[101, 110, 100, 10]⟩, .bool false, .bool false] 34)).alloc (.cells #[] 34)).drew := by rw [HROW.out]; exact hDA
                    have hd2 : OpsAt ((w6.alloc (.cells #[] 34)).alloc (.cells #[.int .i64 trig, .string ⟨#[101, 110, 100, 10]⟩, .bool false, .bool false] 34)).drew (some ⟨w6.heap.size + 1, 0, none⟩) 1 (fun _ => z) := by rw [HROW.out]; exact op_new (w6.alloc (.cells #[] 34)) z _ (by simp)
                    have hd3 : OpsAt ((w6.alloc (.cells #[.int .i64 trig, .string ⟨#[101, 110, 100, 10]⟩, .bool false, .bool false] 34)).alloc (.cells #[] 34)).drew (some ⟨w6.heap.size, 0, none⟩) 1 (fun _ => z) := by rw [HROW.out]; exact ops_alloc (op_new w6 z _ rfl) _
                    have HD2 := Lib.hid hd2
                    have HD3 := Lib.hid hd3
                    clear hnw htz hAD hDA hd2 hd3
                    clear ho6
                    go_region_held3 (fun W => W.cell? ⟨w5.heap.size, 0, none⟩ = some (.int .i64 trig) ∧ W.cell? ⟨w5.heap.size, 1, none⟩ = some (.string ⟨#[101, 110, 100, 10]⟩) ∧ W.cell? ⟨w5.heap.size, 2, none⟩ = some (.bool false) ∧ W.cell? ⟨w5.heap.size, 3, none⟩ = some (.bool false)) (first | exact HC.out _ (by assumption) | go_keep) (first
                      | (refine step_append_ops (by rfl) _ _ (by rfl) (by rfl) w6.heap.size 0 q oc (.slice (some ⟨w6.heap.size, 0, none⟩) 0 0) ops ops ap (by rfl) (by rfl) (own_empty w6 w6.heap.size 34 4 (Nat.le_refl _)).drew (HO6.out _ hA) HA.out.2 (by omega) (by omega) hA.size ?_; intro v1 w7 ho1 hg1; have hb7 : Below w6.heap.size w6 w7 := hA.trans ((Keeps.of_grown hg1 (fun k hk => hk)).below hA.size (fun k hk => (own_typed (own_empty w6 w6.heap.size 34 4 (Nat.le_refl _)).drew hk).2)); have H7 := Lib.hid ho1; clear ho1 hg1)
                      | (refine step_append_ops (by rfl) _ _ (by rfl) (by rfl) w6.heap.size 0 q oc (.slice (some ⟨w6.heap.size, 0, none⟩) 0 0) ops ops ap (by rfl) (by rfl) ((own_empty w6 w6.heap.size 34 4 (Nat.le_refl _)).alloc (.cells #[.int .i64 trig, .string ⟨#[101, 110, 100, 10]⟩, .bool false, .bool false] 34)).drew (HO6.out _ hAD') HA.out.2 (by omega) (by omega) hAD'.size ?_; intro v1 w7 ho1 hg1; have hb7 : Below w6.heap.size w6 w7 := hAD'.trans ((Keeps.of_grown hg1 (fun k hk => hk)).below hAD'.size (fun k hk => (own_typed ((own_empty w6 w6.heap.size 34 4 (Nat.le_refl _)).alloc (.cells #[.int .i64 trig, .string ⟨#[101, 110, 100, 10]⟩, .bool false, .bool false] 34)).drew hk).2)); have H7 := Lib.hid ho1; have HD := Lib.hid (ops_grown (g := w6.heap.size + 1) HD2.out hg1 (ne_own (by omega))); clear ho1 hg1)
                      | (refine step_append_ops (by rfl) _ _ (by rfl) (by rfl) w6.heap.size 0 q oc (.slice (some ⟨w6.heap.size + 1, 0, none⟩) 0 0) ops ops ap (by rfl) (by rfl) (own_empty' (w6.alloc (.cells #[.int .i64 trig, .string ⟨#[101, 110, 100, 10]⟩, .bool false, .bool false] 34)) w6.heap.size 34 4 (w6.heap.size + 1) (by simp) (by simp)).drew (HO6.out _ hDA') HA.out.2 (by omega) (by omega) hDA'.size ?_; intro v1 w7 ho1 hg1; have hb7 : Below w6.heap.size w6 w7 := hDA'.trans ((Keeps.of_grown hg1 (fun k hk => hk)).below hDA'.size (fun k hk => le_own (Nat.le_succ _) hk)); have H7 := Lib.hid ho1; have HD := Lib.hid (ops_grown (g := w6.heap.size) HD3.out hg1 (ne_own (by omega))); clear ho1 hg1)
                      | (refine step_append_ops (by rfl) _ _ (by rfl) (by rfl) w6.heap.size (0 + q) 1 1 v1 (cat ops 0 ops) (fun _ => z) (some ⟨w7.heap.size, 0, none⟩) rfl (by rfl) (H7.out.alloc (.cells #[.int .i64 trig, .string ⟨#[101, 110, 100, 10]⟩, .bool false, .bool false] 34)) (HN.out w7) (fun h => by cases h) (by omega) (by omega) (Nat.le_trans hb7.size (alloc_below w7 _).size) ?_; have hbE := hb7.trans ((alloc_below w7 (.cells #[.int .i64 trig, .string ⟨#[101, 110, 100, 10]⟩, .bool false, .bool false] 34)).mono hb7.size); intro v2 w8 ho2 hg2; have hb8 : Below w6.heap.size w6 w8 := hbE.trans ((Keeps.of_grown hg2 (fun k hk => hk)).below hbE.size (fun k hk => (own_typed H7.out hk).2)); obtain ⟨p2, k2, hv2, _⟩ := own_form ho2; subst hv2; have h11 := Lib.hid (call_last cond trig q k2 p2 ops z w6 w8 BND.out hm40 HPP.out HTZ.out ho2 hb8); clear ho2 hg2)
                      | (refine step_append_ops (by rfl) _ _ (by rfl) (by rfl) w6.heap.size (0 + q) 1 1 v1 (cat ops 0 ops) (fun _ => z) (some ⟨w6.heap.size + 1, 0, none⟩) rfl (by rfl) H7.out HD.out (fun h => by cases h) (by omega) (by omega) hb7.size ?_; have hbE := hb7; intro v2 w8 ho2 hg2; have hb8 : Below w6.heap.size w6 w8 := hbE.trans ((Keeps.of_grown hg2 (fun k hk => hk)).below hbE.size (fun k hk => (own_typed H7.out hk).2)); obtain ⟨p2, k2, hv2, _⟩ := own_form ho2; subst hv2; have h11 := Lib.hid (call_last cond trig q k2 p2 ops z w6 w8 BND.out hm40 HPP.out HTZ.out ho2 hb8); clear ho2 hg2)
                      | (refine step_append_ops (by rfl) _ _ (by rfl) (by rfl) w6.heap.size (0 + q) 1 1 v1 (cat ops 0 ops) (fun _ => z) (some ⟨w6.heap.size, 0, none⟩) rfl (by rfl) H7.out HD.out (fun h => by cases h) (by omega) (by omega) hb7.size ?_; have hbE := hb7; intro v2 w8 ho2 hg2; have hb8 : Below w6.heap.size w6 w8 := hbE.trans ((Keeps.of_grown hg2 (fun k hk => hk)).below hbE.size (fun k hk => (own_typed H7.out hk).2)); obtain ⟨p2, k2, hv2, _⟩ := own_form ho2; subst hv2; have h11 := Lib.hid (call_last cond trig q k2 p2 ops z w6 w8 BND.out hm40 HPP.out HTZ.out ho2 hb8); clear ho2 hg2)
                      | (go_at_call 11; refine h11.out.mono ?_; rintro e w9 ⟨v9, rfl, hv9⟩; have hb9 : Below w6.heap.size w6 w9 := (by obtain ⟨_, _, _, _, hb⟩ := hv9.out; exact hb))
                      )
                    all_goals
                      go_wp2_with fail
                      go_meet
                      exact hv9
                  case rest =>
                    obtain ⟨p9, c9, rfl, ho9, hb69⟩ := hcut.out
                    have hb6 : Below w.heap.size w w6 := hb5.trans (HZ.out.2.below (HSZ.out _ hb5) (fun _ h => h.elim))
                    have hb9 : Below w.heap.size w wc := hb6.trans (hb69.mono (HSZ.out _ hb6))
                    have hrun : trun cond trig (cat ops q (fun _ => z)) (q + 1) = tstep cond trig (trun cond trig ops q) z := trun_last cond trig ops z q
                    have hperm : (tstep cond trig (trun cond trig ops q) z).O.Perm (textsOf ops q ++ [endTx]) := by
                      rw [HZZ.out]
                      exact whole_line cond trig ops q endTx (fun i hi => (HPP.out i hi).1)
                    rw [hrun] at ho9
                    rw [hrun]
                    obtain ⟨OL, hOL⟩ : ∃ l, l = (tstep cond trig (trun cond trig ops q) z).O := ⟨_, rfl⟩
                    rw [← hOL] at ho9 hperm
                    rw [← hOL]
                    have hlen : OL.length = q + 1 := by
                      have := hperm.length_eq
                      simpa [textsOf_len] using this
                    rw [hlen] at ho9
                    rw [hlen]
                    have HLEN := Lib.hid hlen
                    have H9 := Lib.hid (And.intro ho9 hperm)
                    clear ho9 hperm hrun hOL hcut hlen
                    have c13 := texts_walk q oc ap ops wc (by omega) (ops_below hb9 HA.out.1)
                    have C13 := Lib.hid c13
                    clear c13
                    go_wp2_with fail
                    refine C13.out.mono ?_
                    rintro e w10 ⟨⟨pt, ct, rfl, hot⟩, hb910⟩
                    have hb10 : Below w.heap.size w w10 := hb9.trans (hb910.mono (HSZ.out _ hb9))
                    have ho10 := own_keep H9.out.1 (Keeps.of_below hb910 (fun _ => False)) (fun _ _ => id)
                    rw [textsOf_len] at hot
                    rw [textsOf_len]
                    have H10 := Lib.hid (And.intro ho10 hot)
                    clear ho10 hot C13
                    go_wp2_with (first | (at_builtin; go_loud (refine wpList_append_lies _ rfl _ _ 28 rfl wc.heap.size 9 i0 _ 1 16 Tryd.underlying28 hi0 hz0 hz1 hz2 rfl (by omega) _ q _ rfl (H10.out.2.alloc _) ⟨w10.heap.size, 0, none⟩ 1 1 [.string ⟨#[101, 110, 100, 10]⟩] rfl rfl (World.news_of_block (cs := #[.string ⟨#[101, 110, 100, 10]⟩]) (t := 9) (fr := (0, 0)) (heap_alloc_new w10 _)) (by simp [Value.oneCell']) (by omega) (by unfold maxLen; omega) (by omega) (by have := hb910.size; simp; omega) (w10.heap.size + 1) (by simp) ?_); intro g3 cap3 w11 hown3 hgrow3 hat3 hlt3; have H3 := Lib.hid (And.intro hown3 hgrow3); clear hown3 hgrow3 hat3))
                    have kF : Keeps (fun g => wc.heap.size ≤ g) w10 w11 := ((Keeps.refl _ w10).alloc _).trans (Keeps.of_grown H3.out.2 (fun k hk => (own_typed H10.out.2 hk).2))
                    have hownO := own_keep H10.out.1 kF (fun g hg => by
                      have h1 := own_lt H9.out.1 hg
                      omega)
                    have hbw11 : Below w.heap.size w w11 := hb10.trans (kF.below (HSZ.out _ hb10) (fun g hg => Nat.le_trans (HSZ.out _ hb9) hg))
                    have hownW : w11.ownsRow wc.heap.size 9 1 (.slice (some ⟨g3, 0, none⟩) (q + 1) cap3) (q + 1) ((textsOf ops q ++ [endTx]).map str) := by
                      rw [List.map_append]
                      exact H3.out.1
                    have htO : TextsAt w11 p9 OL := texts_of_own hownO
                    have htW : TextsAt w11 (some ⟨g3, 0, none⟩) (textsOf ops q ++ [endTx]) := texts_of_own hownW
                    have hbF : Below w.heap.size w w11 := hbw11
                    have hnn : (q + 1) ≤ 40 := by omega
                    have HT := Lib.hid (And.intro htO htW)
                    clear htO htW
                    go_wp2_with fail
                    go_loop [93] (fun i => ∃ k : Nat, i = .int .i64 k ∧ k ≤ (q + 1)) (fun i => (q + 1) - (intOf i).toNat)
                    case atStart => exact ⟨0, rfl, Nat.zero_le _⟩
                    case round =>
                      obtain ⟨k, rfl, hk⟩ := hrel
                      by_cases hkn : k < (q + 1)
                      · obtain ⟨x, hx⟩ : ∃ x, (textsOf ops q ++ [endTx])[k]? = some x := ⟨_, List.getElem?_eq_getElem (by rw [← H9.out.2.length_eq, HLEN.out]; exact hkn)⟩
                        obtain ⟨gw, hgw, hcw⟩ := HT.out.2 k x hx
                        injection hgw with hgw
                        injection hgw with hgw
                        subst hgw
                        unfold str at hcw
                        obtain ⟨tx, htx⟩ : ∃ t : ByteArray, t = ⟨x.toArray⟩ := ⟨_, rfl⟩
                        rw [← htx] at hcw
                        have HTX := Lib.hid (And.intro htx hx)
                        clear htx hx
                        go_wp2_with fail
                        go_loop [17, 18, 99] (fun n m i => ∃ j : Nat, j ≤ (q + 1) ∧ i = .int .i64 j ∧ n = .int .i64 ((OL.take j).count x) ∧ m = .int .i64 (((textsOf ops q ++ [endTx]).take j).count x)) (fun _ _ i => (q + 1) - (intOf i).toNat)
                        case atStart => exact ⟨0, Nat.zero_le _, rfl, rfl, rfl⟩
                        case round =>
                          obtain ⟨j, hj, rfl, rfl, rfl⟩ := hrel
                          by_cases hjn : j < (q + 1)
                          · obtain ⟨y, hy⟩ : ∃ y, OL[j]? = some y := ⟨_, List.getElem?_eq_getElem (by rw [HLEN.out]; exact hjn)⟩
                            obtain ⟨v, hv⟩ : ∃ v, (textsOf ops q ++ [endTx])[j]? = some v := ⟨_, List.getElem?_eq_getElem (by rw [← H9.out.2.length_eq, HLEN.out]; exact hjn)⟩
                            obtain ⟨go, rfl, hco⟩ := HT.out.1 j y hy
                            obtain ⟨gw', he', hcv⟩ := HT.out.2 j v hv
                            injection he' with he'
                            injection he' with he'
                            subst he'
                            unfold str at hco hcv
                            obtain ⟨ty, hty⟩ : ∃ t : ByteArray, t = ⟨y.toArray⟩ := ⟨_, rfl⟩
                            obtain ⟨tv, htv⟩ : ∃ t : ByteArray, t = ⟨v.toArray⟩ := ⟨_, rfl⟩
                            rw [← hty] at hco
                            rw [← htv] at hcv
                            have cn := count_next x hy
                            have cm := count_next x hv
                            have bn := count_le OL j x
                            have bm := count_le (textsOf ops q ++ [endTx]) j x
                            have hyx : (ty.toList == tx.toList) = decide (y = x) := by
                              rw [hty, HTX.out.1]
                              by_cases e : y = x
                              · rw [e, str_same, decide_eq_true rfl]
                              · rw [str_ne e, decide_eq_false e]
                            have hvx : (tv.toList == tx.toList) = decide (v = x) := by
                              rw [htv, HTX.out.1]
                              by_cases e : v = x
                              · rw [e, str_same, decide_eq_true rfl]
                              · rw [str_ne e, decide_eq_false e]
                            obtain ⟨a, ha⟩ : ∃ a, a = (OL.take j).count x := ⟨_, rfl⟩
                            obtain ⟨b, hb⟩ : ∃ b, b = ((textsOf ops q ++ [endTx]).take j).count x := ⟨_, rfl⟩
                            rw [← ha] at cn bn
                            rw [← hb] at cm bm
                            rw [← ha, ← hb]
                            have CN := Lib.hid (And.intro cn cm)
                            clear cn cm hty htv ha hb hy hv
                            by_cases e1 : y = x
                            · by_cases e2 : v = x
                              · rw [decide_eq_true e1] at hyx
                                rw [decide_eq_true e2] at hvx
                                have hn : (OL.take (j + 1)).count x = a + 1 := by rw [CN.out.1, if_pos e1]
                                have hm : ((textsOf ops q ++ [endTx]).take (j + 1)).count x = b + 1 := by rw [CN.out.2, if_pos e2]
                                have CC := Lib.hid (And.intro hn hm)
                                clear hn hm e1 e2
                                go_wp2_with fail
                                exact ⟨⟨j + 1, by omega, by go_num, by rw [CC.out.1]; go_num, by rw [CC.out.2]; go_num⟩, by simp [intOf]; omega⟩
                              · rw [decide_eq_true e1] at hyx
                                rw [decide_eq_false e2] at hvx
                                have hn : (OL.take (j + 1)).count x = a + 1 := by rw [CN.out.1, if_pos e1]
                                have hm : ((textsOf ops q ++ [endTx]).take (j + 1)).count x = b := by rw [CN.out.2, if_neg e2]; rfl
                                have CC := Lib.hid (And.intro hn hm)
                                clear hn hm e1 e2
                                go_wp2_with fail
                                exact ⟨⟨j + 1, by omega, by go_num, by rw [CC.out.1]; go_num, by rw [CC.out.2]⟩, by simp [intOf]; omega⟩
                            · by_cases e2 : v = x
                              · rw [decide_eq_false e1] at hyx
                                rw [decide_eq_true e2] at hvx
                                have hn : (OL.take (j + 1)).count x = a := by rw [CN.out.1, if_neg e1]; rfl
                                have hm : ((textsOf ops q ++ [endTx]).take (j + 1)).count x = b + 1 := by rw [CN.out.2, if_pos e2]
                                have CC := Lib.hid (And.intro hn hm)
                                clear hn hm e1 e2
                                go_wp2_with fail
                                exact ⟨⟨j + 1, by omega, by go_num, by rw [CC.out.1], by rw [CC.out.2]; go_num⟩, by simp [intOf]; omega⟩
                              · rw [decide_eq_false e1] at hyx
                                rw [decide_eq_false e2] at hvx
                                have hn : (OL.take (j + 1)).count x = a := by rw [CN.out.1, if_neg e1]; rfl
                                have hm : ((textsOf ops q ++ [endTx]).take (j + 1)).count x = b := by rw [CN.out.2, if_neg e2]; rfl
                                have CC := Lib.hid (And.intro hn hm)
                                clear hn hm e1 e2
                                go_wp2_with fail
                                exact ⟨⟨j + 1, by omega, by go_num, by rw [CC.out.1], by rw [CC.out.2]⟩, by simp [intOf]; omega⟩
                          · have hcc : (OL.take j).count x = ((textsOf ops q ++ [endTx]).take j).count x := by
                              rw [List.take_of_length_le (by rw [HLEN.out]; omega), List.take_of_length_le (by rw [← H9.out.2.length_eq, HLEN.out]; omega)]
                              exact H9.out.2.count_eq x
                            rw [hcc]
                            clear hcc
                            generalize ((textsOf ops q ++ [endTx]).take j).count x = cc
                            go_wp2_with fail
                            exact ⟨⟨k + 1, by go_num, by omega⟩, by simp [intOf]; omega⟩
                      · obtain rfl : k = (q + 1) := by omega
                        go_wp2_with fail
                        refine (awake_any w _ hbF hE).mono ?_
                        rintro e w9 ⟨rfl, hb9⟩
                        go_wp2_with fail
                        go_ret
                        exact ⟨rfl, hb9⟩
                · go_upto_region 17 with fail
                  obtain ⟨w6, hw6⟩ : ∃ w6, w6 = w5.alloc (.cells #[.int .i64 0, .string ⟨#[]⟩, .bool true, .bool false] 34) := ⟨_, rfl⟩
                  rw [← hw6]
                  have hnew : Whole w6 w5.heap.size 34 #[.int .i64 0, .string ⟨#[]⟩, .bool true, .bool false] := by rw [hw6]; exact Whole.new w5 34 _
                  have k6 : Keeps (fun _ => False) w5 w6 := by rw [hw6]; exact (Keeps.refl _ w5).alloc _
                  have HZ := Lib.hid (And.intro hnew k6)
                  clear hnew k6 hw6
                  obtain ⟨z, hz⟩ : ∃ z : LineOp, z = ⟨0, [], true, false⟩ := ⟨_, rfl⟩
                  have hrow : Obj.cells #[.int .i64 0, .string ⟨#[]⟩, .bool true, .bool false] 34 = opRow z := by rw [hz]; rfl
                  have HROW := Lib.hid hrow
                  have HZZ := Lib.hid hz
                  clear hrow hz
                  go_cut [13] (fun v W => Hid (∃ p c, v = .slice p (trun cond trig (cat ops q (fun _ => z)) (q + 1)).O.length c ∧ W.ownsRow w6.heap.size 9 1 v (trun cond trig (cat ops q (fun _ => z)) (q + 1)).O.length ((trun cond trig (cat ops q (fun _ => z)) (q + 1)).O.map str) ∧ Below w6.heap.size w6 W))
                  case first =>
                    have z0 : w6.cell? ⟨w5.heap.size, 0, none⟩ = some (.int .i64 0) := HZ.out.1.cell 0
                    have z1 : w6.cell? ⟨w5.heap.size, 1, none⟩ = some (.string ⟨#[]⟩) := HZ.out.1.cell 1
                    have z2 : w6.cell? ⟨w5.heap.size, 2, none⟩ = some (.bool true) := HZ.out.1.cell 2
                    have z3 : w6.cell? ⟨w5.heap.size, 3, none⟩ = some (.bool false) := HZ.out.1.cell 3
                    have hzl := HZ.out.1.lt
                    have hcell : ∀ W, Below w6.heap.size w6 W → W.cell? ⟨w5.heap.size, 0, none⟩ = some (.int .i64 0) ∧ W.cell? ⟨w5.heap.size, 1, none⟩ = some (.string ⟨#[]⟩) ∧ W.cell? ⟨w5.heap.size, 2, none⟩ = some (.bool true) ∧ W.cell? ⟨w5.heap.size, 3, none⟩ = some (.bool false) := fun W hW => ⟨(hW.cell (p := ⟨w5.heap.size, 0, none⟩) hzl).trans z0, (hW.cell (p := ⟨w5.heap.size, 1, none⟩) hzl).trans z1, (hW.cell (p := ⟨w5.heap.size, 2, none⟩) hzl).trans z2, (hW.cell (p := ⟨w5.heap.size, 3, none⟩) hzl).trans z3⟩
                    have HC := Lib.hid hcell
                    clear hcell
                    have hA : Below w6.heap.size w6 (w6.alloc (.cells #[] 34)).drew := ((Keeps.refl (fun _ => False) w6).alloc _).drew.below (Nat.le_refl _) (fun _ h => h.elim)
                    have hAD : Below w6.heap.size w6 ((w6.alloc (.cells #[] 34)).alloc (opRow z)).drew := (((Keeps.refl (fun _ => False) w6).alloc _).alloc _).drew.below (Nat.le_refl _) (fun _ h => h.elim)
                    have hDA : Below w6.heap.size w6 ((w6.alloc (opRow z)).alloc (.cells #[] 34)).drew := (((Keeps.refl (fun _ => False) w6).alloc _).alloc _).drew.below (Nat.le_refl _) (fun _ h => h.elim)
                    have hb6 : Below w.heap.size w w6 := hb5.trans (HZ.out.2.below (HSZ.out _ hb5) (fun _ h => h.elim))
                    have ho6 : ∀ W, Below w6.heap.size w6 W → OpsAt W ap q ops := fun W hW => ops_below hW (ops_below hb6 HA.out.1)
                    have HO6 := Lib.hid ho6
                    have hnw : ∀ W : World, OpsAt (W.alloc (.cells #[.int .i64 0, .string ⟨#[]⟩, .bool true, .bool false] 34)) (some ⟨W.heap.size, 0, none⟩) 1 (fun _ => z) := fun W => by rw [HROW.out]; exact op_new W z _ rfl
                    have HN := Lib.hid hnw
                    have htz : TOp z := by rw [HZZ.out]; exact .inl rfl
                    have HTZ := Lib.hid htz
                    have hAD' : Below w6.heap.size w6 ((w6.alloc (.cells #[] 34)).alloc (.cells #[.int .i64 0, .string ⟨#[]⟩, .bool true, .bool false] 34)).drew := by rw [HROW.out]; exact hAD
                    have hDA' : Below w6.heap.size w6 ((w6.alloc (.cells #[.int .i64 0, .string ⟨#[]⟩, .bool true, .bool false] 34)).alloc (.cells #[] 34)).drew := by rw [HROW.out]; exact hDA
                    have hd2 : OpsAt ((w6.alloc (.cells #[] 34)).alloc (.cells #[.int .i64 0, .string ⟨#[]⟩, .bool true, .bool false] 34)).drew (some ⟨w6.heap.size + 1, 0, none⟩) 1 (fun _ => z) := by rw [HROW.out]; exact op_new (w6.alloc (.cells #[] 34)) z _ (by simp)
                    have hd3 : OpsAt ((w6.alloc (.cells #[.int .i64 0, .string ⟨#[]⟩, .bool true, .bool false] 34)).alloc (.cells #[] 34)).drew (some ⟨w6.heap.size, 0, none⟩) 1 (fun _ => z) := by rw [HROW.out]; exact ops_alloc (op_new w6 z _ rfl) _
                    have HD2 := Lib.hid hd2
                    have HD3 := Lib.hid hd3
                    clear hnw htz hAD hDA hd2 hd3
                    clear ho6
                    go_region_held3 (fun W => W.cell? ⟨w5.heap.size, 0, none⟩ = some (.int .i64 0) ∧ W.cell? ⟨w5.heap.size, 1, none⟩ = some (.string ⟨#[]⟩) ∧ W.cell? ⟨w5.heap.size, 2, none⟩ = some (.bool true) ∧ W.cell? ⟨w5.heap.size, 3, none⟩ = some (.bool false)) (first | exact HC.out _ (by assumption) | go_keep) (first
                      | (refine step_append_ops (by rfl) _ _ (by rfl) (by rfl) w6.heap.size 0 q oc (.slice (some ⟨w6.heap.size, 0, none⟩) 0 0) ops ops ap (by rfl) (by rfl) (own_empty w6 w6.heap.size 34 4 (Nat.le_refl _)).drew (HO6.out _ hA) HA.out.2 (by omega) (by omega) hA.size ?_; intro v1 w7 ho1 hg1; have hb7 : Below w6.heap.size w6 w7 := hA.trans ((Keeps.of_grown hg1 (fun k hk => hk)).below hA.size (fun k hk => (own_typed (own_empty w6 w6.heap.size 34 4 (Nat.le_refl _)).drew hk).2)); have H7 := Lib.hid ho1; clear ho1 hg1)
                      | (refine step_append_ops (by rfl) _ _ (by rfl) (by rfl) w6.heap.size 0 q oc (.slice (some ⟨w6.heap.size, 0, none⟩) 0 0) ops ops ap (by rfl) (by rfl) ((own_empty w6 w6.heap.size 34 4 (Nat.le_refl _)).alloc (.cells #[.int .i64 0, .string ⟨#[]⟩, .bool true, .bool false] 34)).drew (HO6.out _ hAD') HA.out.2 (by omega) (by omega) hAD'.size ?_; intro v1 w7 ho1 hg1; have hb7 : Below w6.heap.size w6 w7 := hAD'.trans ((Keeps.of_grown hg1 (fun k hk => hk)).below hAD'.size (fun k hk => (own_typed ((own_empty w6 w6.heap.size 34 4 (Nat.le_refl _)).alloc (.cells #[.int .i64 0, .string ⟨#[]⟩, .bool true, .bool false] 34)).drew hk).2)); have H7 := Lib.hid ho1; have HD := Lib.hid (ops_grown (g := w6.heap.size + 1) HD2.out hg1 (ne_own (by omega))); clear ho1 hg1)
                      | (refine step_append_ops (by rfl) _ _ (by rfl) (by rfl) w6.heap.size 0 q oc (.slice (some ⟨w6.heap.size + 1, 0, none⟩) 0 0) ops ops ap (by rfl) (by rfl) (own_empty' (w6.alloc (.cells #[.int .i64 0, .string ⟨#[]⟩, .bool true, .bool false] 34)) w6.heap.size 34 4 (w6.heap.size + 1) (by simp) (by simp)).drew (HO6.out _ hDA') HA.out.2 (by omega) (by omega) hDA'.size ?_; intro v1 w7 ho1 hg1; have hb7 : Below w6.heap.size w6 w7 := hDA'.trans ((Keeps.of_grown hg1 (fun k hk => hk)).below hDA'.size (fun k hk => le_own (Nat.le_succ _) hk)); have H7 := Lib.hid ho1; have HD := Lib.hid (ops_grown (g := w6.heap.size) HD3.out hg1 (ne_own (by omega))); clear ho1 hg1)
                      | (refine step_append_ops (by rfl) _ _ (by rfl) (by rfl) w6.heap.size (0 + q) 1 1 v1 (cat ops 0 ops) (fun _ => z) (some ⟨w7.heap.size, 0, none⟩) rfl (by rfl) (H7.out.alloc (.cells #[.int .i64 0, .string ⟨#[]⟩, .bool true, .bool false] 34)) (HN.out w7) (fun h => by cases h) (by omega) (by omega) (Nat.le_trans hb7.size (alloc_below w7 _).size) ?_; have hbE := hb7.trans ((alloc_below w7 (.cells #[.int .i64 0, .string ⟨#[]⟩, .bool true, .bool false] 34)).mono hb7.size); intro v2 w8 ho2 hg2; have hb8 : Below w6.heap.size w6 w8 := hbE.trans ((Keeps.of_grown hg2 (fun k hk => hk)).below hbE.size (fun k hk => (own_typed H7.out hk).2)); obtain ⟨p2, k2, hv2, _⟩ := own_form ho2; subst hv2; have h11 := Lib.hid (call_last cond trig q k2 p2 ops z w6 w8 BND.out hm40 HPP.out HTZ.out ho2 hb8); clear ho2 hg2)
                      | (refine step_append_ops (by rfl) _ _ (by rfl) (by rfl) w6.heap.size (0 + q) 1 1 v1 (cat ops 0 ops) (fun _ => z) (some ⟨w6.heap.size + 1, 0, none⟩) rfl (by rfl) H7.out HD.out (fun h => by cases h) (by omega) (by omega) hb7.size ?_; have hbE := hb7; intro v2 w8 ho2 hg2; have hb8 : Below w6.heap.size w6 w8 := hbE.trans ((Keeps.of_grown hg2 (fun k hk => hk)).below hbE.size (fun k hk => (own_typed H7.out hk).2)); obtain ⟨p2, k2, hv2, _⟩ := own_form ho2; subst hv2; have h11 := Lib.hid (call_last cond trig q k2 p2 ops z w6 w8 BND.out hm40 HPP.out HTZ.out ho2 hb8); clear ho2 hg2)
                      | (refine step_append_ops (by rfl) _ _ (by rfl) (by rfl) w6.heap.size (0 + q) 1 1 v1 (cat ops 0 ops) (fun _ => z) (some ⟨w6.heap.size, 0, none⟩) rfl (by rfl) H7.out HD.out (fun h => by cases h) (by omega) (by omega) hb7.size ?_; have hbE := hb7; intro v2 w8 ho2 hg2; have hb8 : Below w6.heap.size w6 w8 := hbE.trans ((Keeps.of_grown hg2 (fun k hk => hk)).below hbE.size (fun k hk => (own_typed H7.out hk).2)); obtain ⟨p2, k2, hv2, _⟩ := own_form ho2; subst hv2; have h11 := Lib.hid (call_last cond trig q k2 p2 ops z w6 w8 BND.out hm40 HPP.out HTZ.out ho2 hb8); clear ho2 hg2)
                      | (go_at_call 11; refine h11.out.mono ?_; rintro e w9 ⟨v9, rfl, hv9⟩; have hb9 : Below w6.heap.size w6 w9 := (by obtain ⟨_, _, _, _, hb⟩ := hv9.out; exact hb))
                      )
                    all_goals
                      go_wp2_with fail
                      go_meet
                      exact hv9
                  case rest =>
                    obtain ⟨p9, c9, rfl, ho9, hb69⟩ := hcut.out
                    have hb6 : Below w.heap.size w w6 := hb5.trans (HZ.out.2.below (HSZ.out _ hb5) (fun _ h => h.elim))
                    have hb9 : Below w.heap.size w wc := hb6.trans (hb69.mono (HSZ.out _ hb6))
                    have hrun : trun cond trig (cat ops q (fun _ => z)) (q + 1) = tstep cond trig (trun cond trig ops q) z := trun_last cond trig ops z q
                    have hperm : (tstep cond trig (trun cond trig ops q) z).O.Perm (textsOf ops q) := whole_called cond trig ops q z (by rw [HZZ.out]) (fun i hi => (HPP.out i hi).1)
                    rw [hrun] at ho9
                    rw [hrun]
                    obtain ⟨OL, hOL⟩ : ∃ l, l = (tstep cond trig (trun cond trig ops q) z).O := ⟨_, rfl⟩
                    rw [← hOL] at ho9 hperm
                    rw [← hOL]
                    have hlen : OL.length = q := by
                      have := hperm.length_eq
                      simpa [textsOf_len] using this
                    rw [hlen] at ho9
                    rw [hlen]
                    have HLEN := Lib.hid hlen
                    have H9 := Lib.hid (And.intro ho9 hperm)
                    clear ho9 hperm hrun hOL hcut hlen
                    have c13 := texts_walk q oc ap ops wc (by omega) (ops_below hb9 HA.out.1)
                    have C13 := Lib.hid c13
                    clear c13
                    go_wp2_with fail
                    refine C13.out.mono ?_
                    rintro e w10 ⟨⟨pt, ct, rfl, hot⟩, hb910⟩
                    have hb10 : Below w.heap.size w w10 := hb9.trans (hb910.mono (HSZ.out _ hb9))
                    have ho10 := own_keep H9.out.1 (Keeps.of_below hb910 (fun _ => False)) (fun _ _ => id)
                    rw [textsOf_len] at hot
                    rw [textsOf_len]
                    have H10 := Lib.hid (And.intro ho10 hot)
                    clear ho10 hot C13
                    have htO : TextsAt w10 p9 OL := texts_of_own H10.out.1
                    have htW : TextsAt w10 pt (textsOf ops q) := texts_of_own H10.out.2
                    have hbF : Below w.heap.size w w10 := hb10
                    have hnn : q ≤ 40 := by omega
                    have HT := Lib.hid (And.intro htO htW)
                    clear htO htW
                    go_wp2_with fail
                    go_loop [93] (fun i => ∃ k : Nat, i = .int .i64 k ∧ k ≤ q) (fun i => q - (intOf i).toNat)
                    case atStart => exact ⟨0, rfl, Nat.zero_le _⟩
                    case round =>
                      obtain ⟨k, rfl, hk⟩ := hrel
                      by_cases hkn : k < q
                      · obtain ⟨x, hx⟩ : ∃ x, (textsOf ops q)[k]? = some x := ⟨_, List.getElem?_eq_getElem (by rw [← H9.out.2.length_eq, HLEN.out]; exact hkn)⟩
                        obtain ⟨gw, rfl, hcw⟩ := HT.out.2 k x hx
                        unfold str at hcw
                        obtain ⟨tx, htx⟩ : ∃ t : ByteArray, t = ⟨x.toArray⟩ := ⟨_, rfl⟩
                        rw [← htx] at hcw
                        have HTX := Lib.hid (And.intro htx hx)
                        clear htx hx
                        go_wp2_with fail
                        go_loop [17, 18, 99] (fun n m i => ∃ j : Nat, j ≤ q ∧ i = .int .i64 j ∧ n = .int .i64 ((OL.take j).count x) ∧ m = .int .i64 (((textsOf ops q).take j).count x)) (fun _ _ i => q - (intOf i).toNat)
                        case atStart => exact ⟨0, Nat.zero_le _, rfl, rfl, rfl⟩
                        case round =>
                          obtain ⟨j, hj, rfl, rfl, rfl⟩ := hrel
                          by_cases hjn : j < q
                          · obtain ⟨y, hy⟩ : ∃ y, OL[j]? = some y := ⟨_, List.getElem?_eq_getElem (by rw [HLEN.out]; exact hjn)⟩
                            obtain ⟨v, hv⟩ : ∃ v, (textsOf ops q)[j]? = some v := ⟨_, List.getElem?_eq_getElem (by rw [← H9.out.2.length_eq, HLEN.out]; exact hjn)⟩
                            obtain ⟨go, rfl, hco⟩ := HT.out.1 j y hy
                            obtain ⟨gw', he', hcv⟩ := HT.out.2 j v hv
                            injection he' with he'
                            injection he' with he'
                            subst he'
                            unfold str at hco hcv
                            obtain ⟨ty, hty⟩ : ∃ t : ByteArray, t = ⟨y.toArray⟩ := ⟨_, rfl⟩
                            obtain ⟨tv, htv⟩ : ∃ t : ByteArray, t = ⟨v.toArray⟩ := ⟨_, rfl⟩
                            rw [← hty] at hco
                            rw [← htv] at hcv
                            have cn := count_next x hy
                            have cm := count_next x hv
                            have bn := count_le OL j x
                            have bm := count_le (textsOf ops q) j x
                            have hyx : (ty.toList == tx.toList) = decide (y = x) := by
                              rw [hty, HTX.out.1]
                              by_cases e : y = x
                              · rw [e, str_same, decide_eq_true rfl]
                              · rw [str_ne e, decide_eq_false e]
                            have hvx : (tv.toList == tx.toList) = decide (v = x) := by
                              rw [htv, HTX.out.1]
                              by_cases e : v = x
                              · rw [e, str_same, decide_eq_true rfl]
                              · rw [str_ne e, decide_eq_false e]
                            obtain ⟨a, ha⟩ : ∃ a, a = (OL.take j).count x := ⟨_, rfl⟩
                            obtain ⟨b, hb⟩ : ∃ b, b = ((textsOf ops q).take j).count x := ⟨_, rfl⟩
                            rw [← ha] at cn bn
                            rw [← hb] at cm bm
                            rw [← ha, ← hb]
                            have CN := Lib.hid (And.intro cn cm)
                            clear cn cm hty htv ha hb hy hv
                            by_cases e1 : y = x
                            · by_cases e2 : v = x
                              · rw [decide_eq_true e1] at hyx
                                rw [decide_eq_true e2] at hvx
                                have hn : (OL.take (j + 1)).count x = a + 1 := by rw [CN.out.1, if_pos e1]
                                have hm : ((textsOf ops q).take (j + 1)).count x = b + 1 := by rw [CN.out.2, if_pos e2]
                                have CC := Lib.hid (And.intro hn hm)
                                clear hn hm e1 e2
                                go_wp2_with fail
                                exact ⟨⟨j + 1, by omega, by go_num, by rw [CC.out.1]; go_num, by rw [CC.out.2]; go_num⟩, by simp [intOf]; omega⟩
                              · rw [decide_eq_true e1] at hyx
                                rw [decide_eq_false e2] at hvx
                                have hn : (OL.take (j + 1)).count x = a + 1 := by rw [CN.out.1, if_pos e1]
                                have hm : ((textsOf ops q).take (j + 1)).count x = b := by rw [CN.out.2, if_neg e2]; rfl
                                have CC := Lib.hid (And.intro hn hm)
                                clear hn hm e1 e2
                                go_wp2_with fail
                                exact ⟨⟨j + 1, by omega, by go_num, by rw [CC.out.1]; go_num, by rw [CC.out.2]⟩, by simp [intOf]; omega⟩
                            · by_cases e2 : v = x
                              · rw [decide_eq_false e1] at hyx
                                rw [decide_eq_true e2] at hvx
                                have hn : (OL.take (j + 1)).count x = a := by rw [CN.out.1, if_neg e1]; rfl
                                have hm : ((textsOf ops q).take (j + 1)).count x = b + 1 := by rw [CN.out.2, if_pos e2]
                                have CC := Lib.hid (And.intro hn hm)
                                clear hn hm e1 e2
                                go_wp2_with fail
                                exact ⟨⟨j + 1, by omega, by go_num, by rw [CC.out.1], by rw [CC.out.2]; go_num⟩, by simp [intOf]; omega⟩
                              · rw [decide_eq_false e1] at hyx
                                rw [decide_eq_false e2] at hvx
                                have hn : (OL.take (j + 1)).count x = a := by rw [CN.out.1, if_neg e1]; rfl
                                have hm : ((textsOf ops q).take (j + 1)).count x = b := by rw [CN.out.2, if_neg e2]; rfl
                                have CC := Lib.hid (And.intro hn hm)
                                clear hn hm e1 e2
                                go_wp2_with fail
                                exact ⟨⟨j + 1, by omega, by go_num, by rw [CC.out.1], by rw [CC.out.2]⟩, by simp [intOf]; omega⟩
                          · have hcc : (OL.take j).count x = ((textsOf ops q).take j).count x := by
                              rw [List.take_of_length_le (by rw [HLEN.out]; omega), List.take_of_length_le (by rw [← H9.out.2.length_eq, HLEN.out]; omega)]
                              exact H9.out.2.count_eq x
                            rw [hcc]
                            clear hcc
                            generalize ((textsOf ops q).take j).count x = cc
                            go_wp2_with fail
                            exact ⟨⟨k + 1, by go_num, by omega⟩, by simp [intOf]; omega⟩
                      · obtain rfl : k = q := by omega
                        go_wp2_with fail
                        refine (awake_any w _ hbF hE).mono ?_
                        rintro e w9 ⟨rfl, hb9⟩
                        go_wp2_with fail
                        go_ret
                        exact ⟨rfl, hb9⟩
end Go.Proofs.YtiboiagimcgjkaaDoor
