/- Several writers: the law walked. -/
import Derived.Test.YtiboiagimcgjkaaDoorMulL
import Derived.Test.YtiboiagimcgjkaaDoorLevC
import Derived.Deep.RegionHeld3
namespace Go.Proofs.YtiboiagimcgjkaaDoor
open Go.RowKit

/-- An append whose run is known. -/
theorem wpList_app {P : Program} {w w' : World} {ops : Array Oper} {rest : List Oper} {o : Oper} {a : Act} {Q : Exit → Act → World → Prop} (hgd : o.guard = none) (s x : Operand) (t : TypeId)
    (ho : o.op = .call { callee := .builtin .append, args := #[s, x], argTypes := #[t, t] }) (vs vx v' : Value) (hs : a.eval s = vs) (hx : a.eval x = vx)
    (hr : (Builtin.append_ #[t, t] o.type #[vs, vx]).run P w = .ok v' w') (h : wpList P ops Q rest (a.put o.dst v') w') : wpList P ops Q (o :: rest) a w :=
  wpList_plain hgd fun _ hK => by
    unfold Oper.wp execOp
    simp only [ho, resolve, invoke, builtin, Sem.run_bind, Sem.run_pure, Result.andThen_ok, List.map_toArray, List.map_cons, List.map_nil, hs, hx, hr]
    exact hK _ _ h
theorem step_app {P : Program} {w w' : World} {ops : Array Oper} {o : Oper} {a : Act} {K : Act → World → Prop} {Q : Exit → Act → World → Prop} {E : Prop} (hgd : o.guard = none) (s x : Operand) (t : TypeId)
    (ho : o.op = .call { callee := .builtin .append, args := #[s, x], argTypes := #[t, t] }) (vs vx v' : Value) (hs : a.eval s = vs) (hx : a.eval x = vx)
    (hr : (Builtin.append_ #[t, t] o.type #[vs, vx]).run P w = .ok v' w') (h : K (a.put o.dst v') w') :
    if Region.wanted o (yielded ops a.tmps) = true then Oper.wp P o a w K Q else E := by
  have hw : Region.wanted o (yielded ops a.tmps) = true := by simp [Region.wanted, hgd]
  rw [if_pos hw]
  unfold Oper.wp execOp
  simp only [ho, resolve, invoke, builtin, Sem.run_bind, Sem.run_pure, Result.andThen_ok, List.map_toArray, List.map_cons, List.map_nil, hs, hx, hr]
  exact h
/-- What a row's value looks like. -/
theorem own_form {w : World} {base e size n : Nat} {v : Value} {xs : List Value} (h : w.ownsRow base e size v n xs) : ∃ p c, v = .slice p n c ∧ (p = none → n = 0 ∧ c = 0) := by
  rcases h.2 with ⟨rfl, rfl⟩ | ⟨g, cap, cur, rfl, _⟩
  · exact ⟨none, 0, rfl, fun _ => ⟨rfl, rfl⟩⟩
  · exact ⟨_, _, rfl, fun h => by cases h⟩
theorem ops_below {w wr : World} {ap : Option Addr} {m : Nat} {ops : Nat → LineOp} (hb : Below w.heap.size w wr) (h : OpsAt w ap m ops) : OpsAt wr ap m ops := fun i hi => by
  obtain ⟨b, o, he, hlt, hop⟩ := h i hi
  exact ⟨b, o, he, Nat.lt_of_lt_of_le hlt hb.size, op_below hb hlt hop⟩
theorem wpList_append_ops {w : World} {ops : Array Oper} {rest : List Oper} {o : Oper} {a : Act} {Q : Exit → Act → World → Prop} (hgd : o.guard = none) (s x : Operand)
    (ho : o.op = .call { callee := .builtin .append, args := #[s, x], argTypes := #[23, 23] }) (hty : o.type = 23) (base n m c : Nat) (v : Value) (la lb : Nat → LineOp) (ap : Option Addr) (hs : a.eval s = v) (hx : a.eval x = .slice ap m c)
    (hown : w.ownsRow base 34 4 v n (opCells la n)) (hop : OpsAt w ap m lb) (hnil : ap = none → m = 0 ∧ c = 0) (hn : n ≤ 10000000000) (hm : m ≤ 10000000000) (hbase : base ≤ w.heap.size)
    (h : ∀ v' w', w'.ownsRow base 34 4 v' (n + m) (opCells (cat la n lb) (n + m)) → w.grownBy w' v.ownBlock → wpList Tryd.prog ops Q rest (a.put o.dst v') w') : wpList Tryd.prog ops Q (o :: rest) a w := by
  obtain ⟨v', w', hr, h2, h3⟩ := append_ops w base n m c v la lb ap hown hop hnil hn hm hbase
  exact wpList_app hgd s x 23 ho v (.slice ap m c) v' hs hx (by rw [hty]; exact hr) (h v' w' h2 h3)
theorem own_empty (w : World) (base : Nat) (e : TypeId) (size : Nat) (hb : base ≤ w.heap.size) : (w.alloc (.cells #[] e)).ownsRow base e size (.slice (some ⟨w.heap.size, 0, none⟩) 0 0) 0 [] :=
  ⟨by simp, .inr ⟨w.heap.size, 0, #[], rfl, hb, Whole.new w e #[], by simp, by simp⟩⟩

theorem cat_zero (a : Nat → LineOp) : cat a 0 a = a := funext fun i => by simp [cat]
/-- Where the levels lie. -/
def LevAt (w : World) (lp : Option Addr) (n : Nat) (lvs : Nat → Int) : Prop := ∀ i, i < n → ∃ g o, lp = some ⟨g, o, none⟩ ∧ g < w.heap.size ∧ w.cell? ⟨g, o + i, none⟩ = some (.int .i64 (lvs i))
theorem LevAt.below {w wr : World} {lp : Option Addr} {n : Nat} {lvs : Nat → Int} (h : LevAt w lp n lvs) (hb : Below w.heap.size w wr) : LevAt wr lp n lvs := fun i hi => by
  obtain ⟨g, o, he, hlt, hc⟩ := h i hi
  exact ⟨g, o, he, Nat.lt_of_lt_of_le hlt hb.size, (hb.cell (p := ⟨g, o + i, none⟩) hlt).trans hc⟩
theorem MultiRows.later {w w' : World} {base n m : Nat} {lo : Nat → Int} {ops : Nat → LineOp} {v : Value} (h : MultiRows w base n lo ops m v) (hb : Below w.heap.size w w') : MultiRows w' base n lo ops m v := by
  obtain ⟨vals, h1, h2⟩ := h
  exact ⟨vals, own_keep h1 (Keeps.of_below hb (fun _ => False)) (fun _ _ => id), fun i hi => own_keep (h2 i hi) (Keeps.of_below hb (fun _ => False)) (fun _ _ => id)⟩
theorem MultiRows.base {w : World} {base base' n m : Nat} {lo : Nat → Int} {ops : Nat → LineOp} {v : Value} (h : MultiRows w base n lo ops m v) (hb : base' ≤ base) : MultiRows w base' n lo ops m v := by
  obtain ⟨vals, h1, h2⟩ := h
  exact ⟨vals, own_base h1 hb, fun i hi => own_base (h2 i hi) hb⟩
/-- What LMulti hands back. -/
def MEnd (B n : Nat) (lo : Nat → Int) (ops : Nat → LineOp) (m : Nat) (e : Ending) (w' : World) : Prop := ∃ p c, e = .returned (.slice p n c) ∧ MultiRows w' B n lo ops m (.slice p n c)
theorem lmulti_any (n m lc oc : Nat) (lp ap : Option Addr) (lvs : Nat → Int) (ops : Nat → LineOp) (w : World) (hn : n ≤ 6) (hm : m ≤ 40) (hl : LevAt w lp n lvs) (hop : OpsAt w ap m ops) (hlen : ∀ i, i < m → (ops i).tx.length ≤ 1000) :
    Calls Tryd.prog 8 #[.slice lp n lc, .slice ap m oc] w fun e w' => MEnd w.heap.size n (fun i => IntKind.i8.wrap (lvs i)) ops m e w' ∧ Below w.heap.size w w' := by
  rcases Nat.eq_zero_or_pos n with rfl | h0
  · refine (lmulti_walk0 m oc lc lp ap ops w hm hop hlen).mono ?_
    rintro e w' ⟨rfl, hb⟩
    exact ⟨⟨none, 0, rfl, fun _ => .nilIface, ⟨rfl, .inl ⟨rfl, rfl⟩⟩, fun i hi => absurd hi (by omega)⟩, hb⟩
  · obtain ⟨g, o, rfl, hlt, _⟩ := hl 0 h0
    refine (lmulti_walk n m g o lc oc ap lvs ops w h0 hn hm hlt (fun i hi => ?_) hop hlen).mono ?_
    · obtain ⟨g', o', he, _, hc⟩ := hl i hi
      injection he with he
      injection he with h1 h2
      subst h1 h2
      exact hc
    · rintro e w' ⟨⟨v, rfl, hr⟩, hb⟩
      obtain ⟨vals, h1, h2⟩ := hr
      obtain ⟨p, c, rfl, _⟩ := own_form h1
      exact ⟨⟨p, c, rfl, vals, h1, h2⟩, hb⟩
/-- A slice of the row. -/
theorem MultiRows.at {w : World} {base n m c : Nat} {lo : Nat → Int} {ops : Nat → LineOp} {p : Option Addr} (h : MultiRows w base n lo ops m (.slice p n c)) (q : Nat) (hq : q < n) :
    ∃ g px cx, p = some ⟨g, 0, none⟩ ∧ g < w.heap.size ∧ w.cell? ⟨g, q, none⟩ = some (.slice px (rowsOf n lo ops m q).length cx) ∧ w.ownsRow base 9 1 (.slice px (rowsOf n lo ops m q).length cx) (rowsOf n lo ops m q).length ((rowsOf n lo ops m q).map str) := by
  obtain ⟨vals, h1, h2⟩ := h
  obtain ⟨px, cx, he, _⟩ := own_form (h2 q hq)
  obtain ⟨g, cap, hv, hcell⟩ := row_cells h1 (by omega)
  injection hv with hv _ _
  have h3 := hcell q hq
  have h4 := h2 q hq
  rw [he] at h3 h4
  exact ⟨g, px, cx, hv, cell_lt h3, h3, h4⟩

theorem step_append_texts {w : World} {ops : Array Oper} {o : Oper} {a : Act} {K : Act → World → Prop} {Q : Exit → Act → World → Prop} {E : Prop} (hgd : o.guard = none) (s x : Operand)
    (ho : o.op = .call { callee := .builtin .append, args := #[s, x], argTypes := #[28, 28] }) (hty : o.type = 28) (base base2 n m : Nat) (v y : Value) (xs ys : List (List UInt8)) (hs : a.eval s = v) (hx : a.eval x = y)
    (hown : w.ownsRow base 9 1 v n (xs.map str)) (hsrc : w.ownsRow base2 9 1 y m (ys.map str)) (hn : n ≤ 10000000) (hm : m ≤ 10000000) (hbase : base ≤ w.heap.size)
    (h : ∀ v' w', w'.ownsRow base 9 1 v' (n + m) ((xs ++ ys).map str) → w.grownBy w' v.ownBlock → K (a.put o.dst v') w') :
    if Region.wanted o (yielded ops a.tmps) = true then Oper.wp Tryd.prog o a w K Q else E := by
  obtain ⟨v', w', hr, h2, h3⟩ := append_texts w base base2 n m v y xs ys hown hsrc hn hm hbase
  exact step_app hgd s x 28 ho v y v' hs hx (by rw [hty]; exact hr) (h v' w' h2 h3)

set_option maxRecDepth 100000 in
set_option maxHeartbeats 4000000 in
theorem multijoins_walk (n lc ma ca mb cb : Nat) (lp ap bp : Option Addr) (lvs : Nat → Int) (a b : Nat → LineOp) (w : World) (hn : n ≤ 6)
    (ha : OpsAt w ap ma a) (hb : OpsAt w bp mb b) (hna : ap = none → ma = 0 ∧ ca = 0) (hnb : bp = none → mb = 0 ∧ cb = 0)
    (hl : LevAt w lp n lvs) (hE : Errs w) :
    Calls Tryd.prog 3 #[.slice lp n lc, .slice ap ma ca, .slice bp mb cb] w fun e w' => e = .returned (.bool true) ∧ Below w.heap.size w w' := by
  have HA := Lib.hid (And.intro ha hna)
  have HB := Lib.hid (And.intro hb hnb)
  have HL := Lib.hid hl
  have c6a : Hid (Calls Tryd.prog 6 #[.slice ap ma ca] w fun e w' => Guard e (ma ≤ 2147483647) ∧ Below w.heap.size w w') := Lib.hid ((fits4_any ma ca ap a w ha).mono (by rintro e w' ⟨⟨r, h1, h2⟩, h3⟩; exact ⟨⟨r, h1, h2⟩, h3⟩))
  have c6b : Hid (∀ W, Below w.heap.size w W → Calls Tryd.prog 6 #[.slice bp mb cb] W fun e w' => Guard e (mb ≤ 2147483647) ∧ Below w.heap.size w w') := Lib.hid (fun W hW => (fits4_any mb cb bp b W (ops_below hW hb)).mono (by rintro e w' ⟨⟨r, h1, h2⟩, h3⟩; exact ⟨⟨r, h1, h2⟩, hW.trans (h3.mono hW.size)⟩))
  have hsz0 : ∀ W, Below w.heap.size w W → w.heap.size ≤ W.heap.size := fun W h => h.size
  have HSZ := Lib.hid hsz0
  clear ha hb hna hnb hl hsz0
  go_enter Tryd.func3, Tryd.ntmps3
  go_upto_region 1 with fail
  go_wp2_with fail
  (with_reducible refine c6a.out.mono ?_)
  rintro e w1 ⟨⟨ra, rfl, hra⟩, hb1⟩
  have H1 := Lib.hid hra
  clear hra
  cases ra
  · go_wp2_with fail
    go_ret
    exact ⟨rfl, hb1⟩
  · go_wp2_with fail
    (with_reducible refine (c6b.out _ hb1).mono ?_)
    rintro e w2 ⟨⟨rb, rfl, hrb⟩, hb2⟩
    have H2 := Lib.hid hrb
    clear hrb hb1
    cases rb
    · go_wp2_with fail
      go_ret
      exact ⟨rfl, hb2⟩
    · have hma2 : ma ≤ 2147483647 := by simpa using H1.out
      have hmb2 : mb ≤ 2147483647 := by simpa using H2.out
      clear H1 H2 c6a c6b
      have hsz2 := HSZ.out _ hb2
      have hbe : Below w.heap.size w (w2.alloc (.cells #[] 34)) := hb2.trans ((alloc_below w2 _).mono hsz2)
      go_wp2_with (first
        | (at_builtin; refine wpList_append_ops rfl _ _ rfl rfl w.heap.size 0 ma ca _ a a ap rfl rfl (own_empty w2 _ 34 4 hsz2) (ops_below hbe HA.out.1) HA.out.2 (by omega) (by omega) (HSZ.out _ hbe) ?_; intro v1 w3 ho1 hg1; have hb3 : Below w.heap.size w w3 := hbe.trans ((Keeps.of_grown hg1 (fun k hk => hk)).below (HSZ.out _ hbe) (fun k hk => (own_typed (own_empty w2 _ 34 4 hsz2) hk).2)); have H3 := Lib.hid ho1; clear ho1 hg1)
        | (at_builtin; refine wpList_append_ops rfl _ _ rfl rfl w.heap.size (0 + ma) mb cb _ _ b bp rfl rfl H3.out (ops_below hb3 HB.out.1) HB.out.2 (by omega) (by omega) (HSZ.out _ hb3) ?_; intro v2 w4 ho2 hg2; have hb4 : Below w.heap.size w w4 := hb3.trans ((Keeps.of_grown hg2 (fun k hk => hk)).below (HSZ.out _ hb3) (fun k hk => (own_typed H3.out hk).2)); obtain ⟨p2, k2, hv2, hp2⟩ := own_form ho2; subst hv2; have H4 := Lib.hid ho2; clear ho2 hg2))
      obtain ⟨tot, htot⟩ : ∃ t, t = 0 + ma + mb := ⟨_, rfl⟩
      have ho4 := ops_of_row H4.out
      rw [cat_zero, Nat.zero_add] at ho4
      rw [Nat.zero_add] at htot
      have ho5 : OpsAt w4 p2 tot (cat a ma b) := by rw [htot]; exact ho4
      have c7 : Calls Tryd.prog 7 #[.slice p2 tot k2] w4 fun e w' => Guard e (tot ≤ 40 ∧ ∀ i, i < tot → ((cat a ma b) i).tx.length ≤ 100) ∧ Below w4.heap.size w4 w' := plain_any tot k2 p2 (cat a ma b) w4 ho5 (by omega)
      have HO5 := Lib.hid ho5
      rw [htot] at c7
      have HT := Lib.hid htot
      clear ho4 ho5 htot
      refine c7.mono ?_
      rintro e w5 ⟨⟨rc, rfl, hrc⟩, hb45⟩
      have hb5 : Below w.heap.size w w5 := hb4.trans (hb45.mono (HSZ.out _ hb4))
      have H5 := Lib.hid hrc
      clear hrc c7
      cases rc
      · go_wp2_with fail
        go_ret
        exact ⟨rfl, hb5⟩
      · have h40 : ma + mb ≤ 40 ∧ ∀ i, i < ma + mb → ((cat a ma b) i).tx.length ≤ 100 := by
          have := H5.out
          simpa using this
        obtain ⟨h40, hlen⟩ := h40
        have c8 : ∀ (m oc : Nat) (ap' : Option Addr) (ops : Nat → LineOp) (W : World), Below w.heap.size w W → m ≤ 40 → OpsAt W ap' m ops → (∀ i, i < m → (ops i).tx.length ≤ 100) →
            Calls Tryd.prog 8 #[.slice lp n lc, .slice ap' m oc] W fun e w' => MEnd w.heap.size n (fun i => IntKind.i8.wrap (lvs i)) ops m e w' ∧ Below W.heap.size W w' := fun m oc ap' ops W hW hm hop hl => by
          refine (lmulti_any n m lc oc lp ap' lvs ops W hn hm (HL.out.below hW) hop (fun i hi => by have := hl i hi; omega)).mono ?_
          rintro e w' ⟨⟨p, c, he, hr⟩, hb⟩
          exact ⟨⟨p, c, he, hr.base (HSZ.out _ hW)⟩, hb⟩
        have la : ∀ i, i < ma → (a i).tx.length ≤ 100 := fun i hi => by
          have := hlen i (by omega)
          unfold cat at this
          rw [if_pos hi] at this
          exact this
        have lb : ∀ i, i < mb → (b i).tx.length ≤ 100 := fun i hi => by
          have := hlen (ma + i) (by omega)
          unfold cat at this
          rw [if_neg (by omega), show ma + i - ma = i by omega] at this
          exact this
        have C8 := Lib.hid c8
        have HLA := Lib.hid la
        have HLB := Lib.hid lb
        have HLC := Lib.hid hlen
        clear c8 la lb hlen H5 H3 H4
        go_wp2_with fail
        refine (C8.out ma ca ap a w5 hb5 (by omega) (ops_below hb5 HA.out.1) HLA.out).mono ?_
        rintro e w6 ⟨⟨px, cx, rfl, hx⟩, hb56⟩
        have hb6 : Below w.heap.size w w6 := hb5.trans (hb56.mono (HSZ.out _ hb5))
        have HX := Lib.hid hx
        clear hx
        go_wp2_with fail
        refine (C8.out mb cb bp b w6 hb6 (by omega) (ops_below hb6 HB.out.1) HLB.out).mono ?_
        rintro e w7 ⟨⟨py, cy, rfl, hy⟩, hb67⟩
        have hb7 : Below w.heap.size w w7 := hb6.trans (hb67.mono (HSZ.out _ hb6))
        have HY := Lib.hid hy
        clear hy
        have ho7 : OpsAt w7 p2 (ma + mb) (cat a ma b) := by
          have h1 := HO5.out
          rw [HT.out] at h1
          exact ops_below hb67 (ops_below hb56 (ops_below hb45 h1))
        have c83 := Lib.hid (C8.out (ma + mb) k2 p2 (cat a ma b) w7 hb7 h40 ho7 HLC.out)
        clear ho7
        go_wp2_with fail
        refine c83.out.mono ?_
        rintro e w8 ⟨⟨pz, cz, rfl, hz⟩, hb78⟩
        have hb8 : Below w.heap.size w w8 := hb7.trans (hb78.mono (HSZ.out _ hb7))
        have HZ := Lib.hid (And.intro ((HX.out.later hb67).later hb78) (And.intro (HY.out.later hb78) hz))
        clear hz HX HY c83 C8
        go_wp2_with fail
        obtain ⟨lo, hlo⟩ : ∃ lo : Nat → Int, lo = fun i => IntKind.i8.wrap (lvs i) := ⟨_, rfl⟩
        rw [← hlo] at HZ
        clear hlo
        go_loopw [69] (fun i wr => ∃ q : Nat, i = .int .i64 q ∧ q ≤ n ∧ Hid (Below w.heap.size w wr ∧ MultiRows wr w.heap.size n lo a ma (.slice px n cx) ∧ MultiRows wr w.heap.size n lo b mb (.slice py n cy) ∧ MultiRows wr w.heap.size n lo (cat a ma b) (ma + mb) (.slice pz n cz))) (fun i _ => n - (intOf i).toNat)
        case atStart => exact ⟨0, rfl, Nat.zero_le _, Lib.hid ⟨hb8, HZ.out⟩⟩
        case round =>
          obtain ⟨q, rfl, hq, HQ⟩ := hrel
          by_cases hqn : q < n
          · obtain ⟨g, o, rfl, hg, hc⟩ := (HL.out.below HQ.out.1) q hqn
            generalize lvs q = l at hc
            have hbr := HQ.out.1
            by_cases h1 : l < -1
            · go_wp2_with fail
              go_ret
              exact ⟨rfl, hbr⟩
            · by_cases h2 : 7 < l
              · go_wp2_with fail
                go_ret
                exact ⟨rfl, hbr⟩
              · obtain ⟨_, hrx, hry, hrz⟩ := HQ.out
                obtain ⟨gx, vx, ex, rfl, gxl, gxc, gxo⟩ := hrx.at q hqn
                obtain ⟨gy, vy, ey, rfl, gyl, gyc, gyo⟩ := hry.at q hqn
                obtain ⟨gz, vz, ez, rfl, gzl, gzc, gzo⟩ := hrz.at q hqn
                have hlen1 : (rowsOf n lo a ma q).length ≤ 40 := Nat.le_trans (rowsOf_len ma q) (by omega)
                have hlen2 : (rowsOf n lo b mb q).length ≤ 40 := Nat.le_trans (rowsOf_len mb q) (by omega)
                have hcat : rowsOf n lo (cat a ma b) (ma + mb) q = rowsOf n lo a ma q ++ rowsOf n lo b mb q := rows_cat a b ma mb q
                rw [hcat, List.length_append] at gzc gzo
                clear hcat hrx hry hrz
                generalize rowsOf n lo a ma q = ra at gxc gxo gzc gzo hlen1
                generalize rowsOf n lo b mb q = rb at gyc gyo gzc gzo hlen2
                obtain ⟨na, hna⟩ : ∃ k, k = ra.length := ⟨_, rfl⟩
                obtain ⟨nb, hnb⟩ : ∃ k, k = rb.length := ⟨_, rfl⟩
                rw [← hna] at gxc gxo gzc gzo hlen1
                rw [← hnb] at gyc gyo gzc gzo hlen2
                have hX : ∀ W, Below wr.heap.size wr W → W.ownsRow w.heap.size 9 1 (.slice vx na ex) na (ra.map str) := fun W hW => own_keep gxo (Keeps.of_below hW (fun _ => False)) (fun _ _ => id)
                have hY : ∀ W, Below wr.heap.size wr W → W.ownsRow w.heap.size 9 1 (.slice vy nb ey) nb (rb.map str) := fun W hW => own_keep gyo (Keeps.of_below hW (fun _ => False)) (fun _ _ => id)
                have hZ : ∀ W, Below wr.heap.size wr W → W.ownsRow w.heap.size 9 1 (.slice vz (na + nb) ez) (na + nb) ((ra ++ rb).map str) := fun W hW => own_keep gzo (Keeps.of_below hW (fun _ => False)) (fun _ _ => id)
                have HXYZ := Lib.hid (And.intro hX (And.intro hY hZ))
                clear hX hY hZ gxo gyo gzo hna hnb
                have hsr := HSZ.out _ hbr
                have hbA : Below wr.heap.size wr (wr.alloc (.cells #[] 9)).drew := (alloc_below wr _).trans ⟨rfl, rfl, rfl, Nat.le_refl _, fun _ _ => rfl⟩
                have HS : Hid (∀ W, Below wr.heap.size wr W → W.cell? ⟨gx, q, none⟩ = some (.slice vx na ex) ∧ W.cell? ⟨gy, q, none⟩ = some (.slice vy nb ey) ∧ W.cell? ⟨gz, q, none⟩ = some (.slice vz (na + nb) ez)) := Lib.hid (fun W hW => ⟨(hW.cell (p := ⟨gx, q, none⟩) gxl).trans gxc, (hW.cell (p := ⟨gy, q, none⟩) gyl).trans gyc, (hW.cell (p := ⟨gz, q, none⟩) gzl).trans gzc⟩)
                go_wp2_with fail
                go_region_held3 (fun w' => w'.cell? ⟨gx, q, none⟩ = some (.slice vx na ex) ∧ w'.cell? ⟨gy, q, none⟩ = some (.slice vy nb ey) ∧ w'.cell? ⟨gz, q, none⟩ = some (.slice vz (na + nb) ez)) (first | exact HS.out _ (by assumption) | go_keep) (first
                  | (refine step_append_texts (by rfl) _ _ (by rfl) (by rfl) wr.heap.size w.heap.size 0 na (.slice (some ⟨wr.heap.size, 0, none⟩) 0 0) (.slice vx na ex) [] ra (by rfl) (by rfl) ((own_empty wr wr.heap.size 9 1 (Nat.le_refl _)).drew) (HXYZ.out.1 _ hbA) (by omega) (by omega) hbA.size ?_; intro vA wA hoA hgA; have hbB : Below wr.heap.size wr wA := hbA.trans ((Keeps.of_grown hgA (fun k hk => hk)).below hbA.size (fun k hk => (own_typed (own_empty wr wr.heap.size 9 1 (Nat.le_refl _)).drew hk).2)); have HOA := Lib.hid (And.intro hoA hgA); clear hoA hgA)
                  | (refine step_append_texts (by rfl) _ _ (by rfl) (by rfl) wr.heap.size w.heap.size (0 + na) nb _ (.slice vy nb ey) ([] ++ ra) rb (by rfl) (by rfl) HOA.out.1 (HXYZ.out.2.1 _ hbB) (by omega) (by omega) hbB.size ?_; intro vB wB hoB hgB; have hbC : Below wr.heap.size wr wB := hbB.trans ((Keeps.of_grown hgB (fun k hk => hk)).below hbB.size (fun k hk => (own_typed HOA.out.1 hk).2)); rw [Nat.zero_add, List.nil_append] at hoB; obtain ⟨pB, kB, hvB, hpB⟩ := own_form hoB; subst hvB; have h9 := Lib.hid (texts_same (na + nb) ez kB vz pB wB (same_of_rows (HXYZ.out.2.2 _ hbC) hoB) (by omega)); clear hoB hgB)
                  | (go_at_call 9; refine h9.out.mono ?_; rintro e wC ⟨rfl, hbCD⟩; have hbD : Below wr.heap.size wr wC := hbC.trans (hbCD.mono hbC.size)))
                go_wp2_with fail
                go_roundw
                case rel =>
                  have h0 := HQ.out
                  exact ⟨q + 1, by go_num, by omega, Lib.hid ⟨hbr.trans (hbD.mono hsr), h0.2.1.later hbD, h0.2.2.1.later hbD, h0.2.2.2.later hbD⟩⟩
                case measure => simp [intOf]; omega
          · obtain rfl : q = n := by omega
            go_wp2_with fail
            refine (awake_any w _ HQ.out.1 hE).mono ?_
            rintro e w' ⟨rfl, hbe⟩
            go_wp2_with fail
            go_ret
            exact ⟨rfl, hbe⟩
end Go.Proofs.YtiboiagimcgjkaaDoor
