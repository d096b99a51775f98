/- Several writers: the walk of LMulti. -/
import Derived.Test.YtiboiagimcgjkaaDoorMulD
namespace Go.Proofs.YtiboiagimcgjkaaDoor
open Go.RowKit

theorem Tryd.info40 : (Tryd.prog.info? 40).map (fun i => (i.zero, i.size, i.bytes)) = some (some (.pointer none), 1, 8) := by kernel_rfl
theorem Tryd.info45 : (Tryd.prog.info? 45).map (fun i => (i.zero, i.size, i.bytes)) = some (some .nilIface, 1, 16) := by kernel_rfl
theorem Tryd.info28 : (Tryd.prog.info? 28).map (fun i => (i.zero, i.size, i.bytes)) = some (some (.slice none 0 0), 1, 24) := by kernel_rfl

theorem alloc_two (w : World) (o p : Obj) : ((w.alloc o).alloc p).heap[w.heap.size + 1]? = some p := by
  have := heap_alloc_new (w.alloc o) p
  have hs : (w.alloc o).heap.size = w.heap.size + 1 := by simp
  rw [hs] at this
  exact this
theorem made_now {wr : World} {base j : Nat} {F L : Nat → Nat} {lo : Nat → Int} {vo vw : Value} (h : Made wr base j F L lo vo vw) {w1 : World} (hg1 : ((wr.alloc (.cells #[.slice none 0 0] 42)).alloc (.cells #[ptr wr.heap.size] 40)).grownBy w1 vo.ownBlock) :
    w1.ownsRow base 45 1 vw j ((List.range j).map fun i => .iface 43 (ptr (F i))) := by
  have k1 : Keeps (fun g => Typed wr g 40) wr w1 := (((Keeps.refl _ wr).alloc _).alloc _).trans ((Keeps.of_grown hg1 (fun k hk => hk)).mono_new (T := fun g => Typed wr g 40) (fun g hg hs => (own_typed h.1 hs).1))
  exact own_keep h.2.1 k1 (fun g hg ht => (own_typed h.2.1 hg).1.ne ht (by decide) rfl)
theorem row_cells {w : World} {base e n : Nat} {v : Value} {f : Nat → Value} (h : w.ownsRow base e 1 v n ((List.range n).map f)) (h0 : 0 < n) : ∃ g cap, v = .slice (some ⟨g, 0, none⟩) n cap ∧ ∀ i, i < n → w.cell? ⟨g, i, none⟩ = some (f i) := by
  rcases h.2 with ⟨_, h1⟩ | ⟨g, cap, cur, rfl, hb, hgg, hlen, hpre⟩
  · omega
  · refine ⟨g, cap, rfl, fun i hi => ?_⟩
    have hw : Whole w g e cur := hgg
    rw [hw.cell]
    have h5 := congrArg (·[i]?) hpre.2.2
    have h6 : ((List.range n).map f)[i]? = some (f i) := by simp [hi]
    simp only [h6] at h5
    rw [List.getElem?_take_of_lt (by omega)] at h5
    simpa using h5
/-- A line with its level. -/
structure LineOp where
  lv : Int
  tx : List UInt8
  tr : Bool
  cl : Bool
def OpAt (w : World) (b o : Nat) (x : LineOp) : Prop :=
  w.cell? ⟨b, o, none⟩ = some (.int .i64 x.lv) ∧ w.cell? ⟨b, o + 1, none⟩ = some (str x.tx) ∧ w.cell? ⟨b, o + 2, none⟩ = some (.bool x.tr) ∧ w.cell? ⟨b, o + 3, none⟩ = some (.bool x.cl)

theorem cell_lt {W : World} {a : Addr} {v : Value} (h : W.cell? a = some v) : a.block < W.heap.size := by
  rcases Nat.lt_or_ge a.block W.heap.size with hlt | hge
  · exact hlt
  · unfold World.cell? at h
    rw [Array.getElem?_eq_none hge] at h
    cases a with
    | mk b o sp => cases sp <;> cases h
theorem op_below {w wr : World} {b o : Nat} {x : LineOp} (hb : Below w.heap.size w wr) (hlt : b < w.heap.size) (h : OpAt w b o x) : OpAt wr b o x :=
  ⟨(hb.cell (p := ⟨b, o, none⟩) hlt).trans h.1, (hb.cell (p := ⟨b, o + 1, none⟩) hlt).trans h.2.1, (hb.cell (p := ⟨b, o + 2, none⟩) hlt).trans h.2.2.1, (hb.cell (p := ⟨b, o + 3, none⟩) hlt).trans h.2.2.2⟩
/-- A row of lines lies behind the start `ap`. -/
def OpsAt (w : World) (ap : Option Addr) (m : Nat) (ops : Nat → LineOp) : Prop :=
  ∀ i, i < m → ∃ b o, ap = some ⟨b, o, none⟩ ∧ b < w.heap.size ∧ OpAt w b (o + i * 4) (ops i)
/-- What the collectors hold behind q lines. -/
def rowsOf (n : Nat) (lo : Nat → Int) (ops : Nat → LineOp) : Nat → Nat → List (List UInt8)
  | 0 => fun _ => []
  | q + 1 => hold lo (IntKind.i8.wrap (ops q).lv) (ops q).tx (rowsOf n lo ops q) n
theorem rowsOf_len {n : Nat} {lo : Nat → Int} {ops : Nat → LineOp} : ∀ (q i : Nat), (rowsOf n lo ops q i).length ≤ q
  | 0, _ => Nat.le_refl 0
  | q + 1, i => by
    have := rowsOf_len (n := n) (lo := lo) (ops := ops) q i
    simp only [rowsOf, hold]
    split
    · rw [List.length_append]
      exact Nat.add_le_add this (Nat.le_refl 1)
    · omega
def Loop2 (w : World) (base n : Nat) (F L : Nat → Nat) (lo : Nat → Int) (ops : Nat → LineOp) (W : Nat) (vo : Value) (q : Nat) : Prop :=
  ∃ ob, Sys w base n F L lo (rowsOf n lo ops q) ob ∧ WsAt w W n F ∧ w.ownsRow base 40 1 vo n ((List.range n).map fun i => ptr (L i))

theorem own_one {w : World} {base e size n : Nat} {v : Value} {xs : List Value} (h : w.ownsRow base e size v n xs) : v.oneCell' = true := by
  rcases h.2 with ⟨rfl, _⟩ | ⟨_, _, _, rfl, _⟩ <;> rfl
theorem loop2_vals {w : World} {base n W q gl cl : Nat} {F L : Nat → Nat} {lo : Nat → Int} {ops : Nat → LineOp} (h : Loop2 w base n F L lo ops W (.slice (some ⟨gl, 0, none⟩) n cl) q) :
    ∃ vals : Nat → Value, ∀ i, i < n → w.cell? ⟨gl, i, none⟩ = some (ptr (L i)) ∧ Whole w (L i) 42 #[vals i] ∧ w.ownsRow base 9 1 (vals i) (rowsOf n lo ops q i).length ((rowsOf n lo ops q i).map str) := by
  obtain ⟨ob, h1, _, h3⟩ := h
  have hc : ∀ i, ∃ v : Value, i < n → Whole w (L i) 42 #[v] ∧ w.ownsRow base 9 1 v (rowsOf n lo ops q i).length ((rowsOf n lo ops q i).map str) := fun i => by
    by_cases hi : i < n
    · obtain ⟨v, a, b, _⟩ := h1.lin i hi
      exact ⟨v, fun _ => ⟨a, b⟩⟩
    · exact ⟨.nilIface, fun h => absurd h hi⟩
  obtain ⟨vals, hv⟩ := Classical.axiomOfChoice hc
  refine ⟨vals, fun i hi => ⟨?_, hv i hi⟩⟩
  obtain ⟨g, c, he, hcell⟩ := row_cells h3 (by omega)
  injection he with he _
  injection he with he
  injection he with he
  subst he
  exact hcell i hi
/-- One line is written to all. -/
def Wrote2 (Wx : World) (base n : Nat) (F L : Nat → Nat) (lo : Nat → Int) (ops : Nat → LineOp) (W : Nat) (vo : Value) (q : Nat) (e : Ending) (w' : World) : Prop :=
  (∃ r : Int, e = .returned (.tuple #[.int .i64 r, .nilIface])) ∧ Loop2 w' base n F L lo ops W vo (q + 1) ∧ Below base Wx w'
theorem op_write {wr Wx : World} {base n W wc q : Nat} {F L : Nat → Nat} {lo : Nat → Int} {ops : Nat → LineOp} {vo : Value} (h : Loop2 wr base n F L lo ops W vo q) (k : Keeps (fun _ => False) wr Wx) (pb kk cap : Nat) (lv : Int) (hlv : IntKind.i8.wrap (ops q).lv = lv)
    (hbb : BB Wx pb (ops q).tx) (ht : Typed Wx pb 5) (hk : (ops q).tx.length = kk) (hk1 : kk ≤ 1000) (hn : n ≤ 100) (hq : q ≤ 999) (hbase : base ≤ Wx.heap.size) :
    Calls Tryd.prog 92 #[.agg #[.slice (some ⟨W, 0, none⟩) n wc], .int .i8 lv, .slice (some ⟨pb, 0, none⟩) kk cap] Wx (Wrote2 Wx base n F L lo ops W vo q) := by
  obtain ⟨ob, h1, h2, h3⟩ := h
  refine (multi_write W n wc base F L lo (rowsOf n lo ops q) ob lv pb kk cap (ops q).tx Wx (h1.later k) (h2.keep k id) hbb ht hn hk hk1 (fun i _ => Nat.le_trans (rowsOf_len q i) hq) hbase).mono ?_
  rintro e w' ⟨hr, ob', s1, s2, s3, s4⟩
  refine ⟨hr, ⟨ob', by rw [rowsOf, hlv]; exact s1, s2, ?_⟩, s3⟩
  have h4 := own_keep h3 k (fun _ _ => id)
  refine own_keep h4 s4 (fun g hg hs => ?_)
  rcases hs with hs | hs
  · exact (own_typed h4 hg).1.ne hs (by decide) rfl
  · exact (own_typed h4 hg).1.ne hs (by decide) rfl
theorem bytes_typed (w : World) (s : ByteArray) : Typed (Lib.bytesWorld w 5 s) w.heap.size 5 := ⟨_, _, Lib.bytesWorld_at_new w 5 s⟩
theorem bytes_keeps (w : World) (o : Obj) (s : ByteArray) : Keeps (fun _ => False) w (Lib.bytesWorld (w.alloc o) 5 s) :=
  ((Keeps.refl _ w).alloc o).trans (Keeps.of_below (Joins.below_bytesWorld _ _ _ _ (Nat.le_refl _)) _)
theorem own_slice {w : World} {base e size n : Nat} {v : Value} {xs : List Value} (h : w.ownsRow base e size v n xs) : ∃ p l c, v = .slice p l c := by
  rcases h.2 with ⟨rfl, _⟩ | ⟨_, _, _, rfl, _⟩ <;> exact ⟨_, _, _, rfl⟩
theorem own_base {w : World} {base base' e size n : Nat} {v : Value} {xs : List Value} (h : w.ownsRow base e size v n xs) (hb : base' ≤ base) : w.ownsRow base' e size v n xs := by
  refine ⟨h.1, ?_⟩
  rcases h.2 with h0 | ⟨g, cap, cur, rfl, hg, rest⟩
  · exact .inl h0
  · exact .inr ⟨g, cap, cur, rfl, Nat.le_trans hb hg, rest⟩
def MultiRows (w' : World) (base n : Nat) (lo : Nat → Int) (ops : Nat → LineOp) (m : Nat) (v : Value) : Prop :=
  ∃ vals : Nat → Value, w'.ownsRow base 28 1 v n ((List.range n).map vals) ∧ ∀ i, i < n → w'.ownsRow base 9 1 (vals i) (rowsOf n lo ops m i).length ((rowsOf n lo ops m i).map str)
theorem multi_rows {wl w' : World} {base n m : Nat} {lo : Nat → Int} {ops : Nat → LineOp} {v : Value} {vals : Nat → Value} (hb : base ≤ wl.heap.size) (h : w'.ownsRow wl.heap.size 28 1 v n ((List.range n).map vals)) (hv : ∀ i, i < n → wl.ownsRow base 9 1 (vals i) (rowsOf n lo ops m i).length ((rowsOf n lo ops m i).map str)) (hbel : Below wl.heap.size wl w') : MultiRows w' base n lo ops m v :=
  ⟨vals, own_base h hb, fun i hi => own_keep (hv i hi) (Keeps.of_below hbel (fun _ => False)) (fun _ _ h => h)⟩

set_option maxRecDepth 100000 in
set_option maxHeartbeats 4000000 in
theorem lmulti_walk (n m lb lf lc oc : Nat) (ap : Option Addr) (lvs : Nat → Int) (ops : Nat → LineOp) (w : World) (hn0 : 0 < n) (hn : n ≤ 6) (hm : m ≤ 40) (hlb : lb < w.heap.size) (hlv : ∀ i, i < n → w.cell? ⟨lb, lf + i, none⟩ = some (.int .i64 (lvs i)))
    (hop : OpsAt w ap m ops) (hlen : ∀ i, i < m → (ops i).tx.length ≤ 1000) :
    Calls Tryd.prog 8 #[.slice (some ⟨lb, lf, none⟩) n lc, .slice ap m oc] w fun e w' => (∃ v, e = .returned v ∧ MultiRows w' w.heap.size n (fun i => IntKind.i8.wrap (lvs i)) ops m v) ∧ Below w.heap.size w w' := by
  obtain ⟨j0, hj0, jz0, jz1, jz2⟩ := info_parts Tryd.info40
  obtain ⟨k0, hk0, kz0, kz1, kz2⟩ := info_parts Tryd.info45
  have HL := Lib.hid hlv
  have HO := Lib.hid hop
  have HLEN := Lib.hid hlen
  clear hlv hop hlen
  go_enter Tryd.func8, Tryd.ntmps8
  go_wp2_with fail
  go_loopw [5, 6, 18] (fun vo vw i wr => ∃ (j : Nat) (F L : Nat → Nat), i = .int .i64 j ∧ j ≤ n ∧ Hid (Made wr w.heap.size j F L (fun i => IntKind.i8.wrap (lvs i)) vo vw ∧ Below w.heap.size w wr)) (fun _ _ i _ => n - (intOf i).toNat)
  case atStart => exact ⟨0, fun _ => 0, fun _ => 0, rfl, Nat.zero_le _, Lib.hid ⟨⟨⟨rfl, .inl ⟨rfl, rfl⟩⟩, ⟨rfl, .inl ⟨rfl, rfl⟩⟩, ⟨fun i hi => absurd hi (by omega), fun i hi => absurd hi (by omega), fun i j hi => absurd hi (by omega), fun i j hi => absurd hi (by omega), fun i hi => absurd hi (by omega)⟩⟩, Below.refl _ _⟩⟩
  case round =>
    obtain ⟨j, F, L, rfl, hj, HR⟩ := hrel
    by_cases hjn : j < n
    · have hc : wr.cell? ⟨lb, lf + j, none⟩ = some (.int .i64 (lvs j)) := (HR.out.2.cell (p := ⟨lb, lf + j, none⟩) hlb).trans (HL.out j hjn)
      have hsz := HR.out.2.size
      go_wp2_with (first
        | (at_builtin; refine wpList_append_lies _ rfl _ _ 38 rfl w.heap.size 40 j0 _ 1 8 Tryd.underlying38 hj0 jz0 jz1 jz2 rfl (by omega) _ j _ rfl ((HR.out.1.1.alloc _).alloc _) ⟨wr.heap.size + 1, 0, none⟩ 1 1 [ptr wr.heap.size] rfl rfl (World.news_of_block (cs := #[ptr wr.heap.size]) (t := 40) (fr := (0, 0)) (alloc_two wr _ _)) (by simp [Value.oneCell', ptr]) (by omega) (by unfold maxLen; omega) (by omega) (by simp; omega) (wr.heap.size + 2) (by simp) ?_; intro g1 cap1 w1 hown1 hgrow1 hat1 hlt1; have H1 := Lib.hid (And.intro hown1 (And.intro hgrow1 (made_now HR.out.1 hgrow1))); have hs1 : wr.heap.size + 2 ≤ w1.heap.size := (by have := hgrow1.size; simpa using this); clear hown1 hgrow1 hat1)
        | (at_builtin; go_loud (refine wpList_append_lies _ rfl _ _ 39 rfl w.heap.size 45 k0 _ 1 16 Tryd.underlying39 hk0 kz0 kz1 kz2 rfl (by omega) _ j _ rfl ((H1.out.2.2.alloc _).alloc _) ⟨w1.heap.size + 1, 0, none⟩ 1 1 [.iface 43 (ptr w1.heap.size)] rfl rfl (World.news_of_block (cs := #[.iface 43 (ptr w1.heap.size)]) (t := 45) (fr := (0, 0)) (alloc_two w1 _ _)) (by simp [Value.oneCell']) (by omega) (by unfold maxLen; omega) (by omega) (by simp; omega) (w1.heap.size + 2) (by simp) ?_); intro g2 cap2 w2 hown2 hgrow2 hat2 hlt2; have H2 := Lib.hid (And.intro hown2 hgrow2); clear hown2 hgrow2 hat2))
      go_roundw
      case rel =>
        obtain ⟨m1, m2⟩ := made_step HR.out.1 hsz H1.out.2.1 H1.out.1 H2.out.2 H2.out.1
        exact ⟨j + 1, _, _, by go_num, by omega, Lib.hid ⟨m1, HR.out.2.trans m2⟩⟩
      case measure => simp [intOf]; omega
    · obtain rfl : j = n := by omega
      obtain ⟨⟨ho, hw, hsys⟩, hbl⟩ := HR.out
      obtain ⟨gw, cw, hvw, hcells⟩ : ∃ gw cw, u6 = .slice (some ⟨gw, 0, none⟩) j cw ∧ ∀ i, i < j → wr.cell? ⟨gw, i, none⟩ = some (.iface 43 (ptr (F i))) := row_cells hw hn0
      obtain ⟨gl, cl, hvl, _⟩ : ∃ gl cl, u5 = .slice (some ⟨gl, 0, none⟩) j cl ∧ ∀ i, i < j → wr.cell? ⟨gl, i, none⟩ = some (ptr (L i)) := row_cells ho hn0
      subst hvw hvl
      have hgw := cell_lt (hcells 0 hn0)
      have HLOOP := Lib.hid (And.intro ho (And.intro hw (And.intro hsys hbl)))
      have H15 : Hid (Calls Tryd.prog 15 #[.slice (some ⟨gw, 0, none⟩) j cw] wr fun e w' => (∃ W wc, e = .returned (.iface 72 (.agg #[.slice (some ⟨W, 0, none⟩) j wc])) ∧ WsAt w' W j F) ∧ Below wr.heap.size wr w') := Lib.hid (multi_new j gw cw F wr hcells hgw (by omega) hn0)
      clear ho hw hsys hbl hcells
      go_wp2_with (first | (go_at_call 15; refine H15.out.mono ?_; rintro e wm ⟨⟨W, wc, rfl, hws⟩, hbm⟩; have HM := Lib.hid (And.intro hws hbm); clear hws hbm))
      obtain ⟨wo, hwo⟩ : ∃ wo, wo = wr := ⟨_, rfl⟩
      subst hwo
      have hloa : Hid (Loop2 wm w.heap.size j F L (fun i => IntKind.i8.wrap (lvs i)) ops W (.slice (some ⟨gl, 0, none⟩) j cl) 0) := Lib.hid (by
        obtain ⟨ho, hw, hsys, hbl⟩ := HLOOP.out
        obtain ⟨hws, hbm⟩ := HM.out
        have k1 := Keeps.of_below hbm (fun _ => False)
        exact ⟨fun _ => none, hsys.later k1, hws, own_keep ho k1 (fun _ _ => id)⟩)
      have hbm : Hid (Below w.heap.size w wm) := Lib.hid (HLOOP.out.2.2.2.trans (HM.out.2.mono HLOOP.out.2.2.2.size))
      go_loopw [45] (fun i wq => ∃ q : Nat, i = .int .i64 q ∧ q ≤ m ∧ Hid (Loop2 wq w.heap.size j F L (fun i => IntKind.i8.wrap (lvs i)) ops W (.slice (some ⟨gl, 0, none⟩) j cl) q ∧ Below w.heap.size w wq)) (fun i _ => m - (intOf i).toNat)
      case atStart => exact ⟨0, rfl, Nat.zero_le _, Lib.hid ⟨hloa.out, hbm.out⟩⟩
      case round =>
        obtain ⟨q, rfl, hq, HQ⟩ := hrel
        by_cases hqm : q < m
        · have hsz := HQ.out.2.size
          obtain ⟨tq, htq⟩ : ∃ t : ByteArray, t = ⟨(ops q).tx.toArray⟩ := ⟨_, rfl⟩
          obtain ⟨lq, hlq⟩ : ∃ x : Int, x = (ops q).lv := ⟨_, rfl⟩
          obtain ⟨ob, oo, rfl, hob, hoq⟩ := HO.out q hqm
          have hx := op_below HQ.out.2 hob hoq
          clear hoq
          obtain ⟨x0, x1, x2, x3⟩ := hx
          unfold str at x1
          rw [← htq] at x1
          rw [← hlq] at x0
          have hcv := conv_bytes tq
          have hzq : tq.size = (ops q).tx.length := by rw [htq]; show (ops q).tx.toArray.size = _; simp
          have h92 := op_write (wc := wc) HQ.out.1 (bytes_keeps wr (.cells #[.int .i64 lq, .string tq, .bool (ops q).tr, .bool (ops q).cl] 34) tq) (wr.heap.size + 1) tq.size (grownCap (wr.alloc (.cells #[.int .i64 lq, .string tq, .bool (ops q).tr, .bool (ops q).cl] 34)) tq.size 0 5) (IntKind.i8.wrap lq) (by rw [hlq])
            (by have := BB.conv (wr.alloc (.cells #[.int .i64 lq, .string tq, .bool (ops q).tr, .bool (ops q).cl] 34)) tq
                rw [show (wr.alloc (.cells #[.int .i64 lq, .string tq, .bool (ops q).tr, .bool (ops q).cl] 34)).heap.size = wr.heap.size + 1 by simp, show tq.data.toList = (ops q).tx by rw [htq]] at this
                exact this)
            (by have := bytes_typed (wr.alloc (.cells #[.int .i64 lq, .string tq, .bool (ops q).tr, .bool (ops q).cl] 34)) tq
                rw [show (wr.alloc (.cells #[.int .i64 lq, .string tq, .bool (ops q).tr, .bool (ops q).cl] 34)).heap.size = wr.heap.size + 1 by simp] at this
                exact this)
            hzq.symm (by have := HLEN.out q hqm; omega) (by omega) (by omega) (by rw [Lib.bytesWorld_size]; simp; omega)
          have H92 := Lib.hid h92
          have HTQ := Lib.hid (And.intro htq (And.intro hlq hzq))
          clear h92 htq hlq hzq
          go_wp2_with (first | (go_at_call 92; refine H92.out.mono ?_; rintro e w2 ⟨⟨r, rfl⟩, hl2, hb2⟩; have HL2 := Lib.hid (And.intro hl2 hb2); clear hl2 hb2))
          go_roundw
          case rel => exact ⟨q + 1, by go_num, by omega, Lib.hid ⟨HL2.out.1, HQ.out.2.trans (((bytes_keeps wr _ _).below (Nat.le_refl _) (fun _ h => h.elim)).mono hsz |>.trans HL2.out.2)⟩⟩
          case measure => simp [intOf]; omega
        · obtain rfl : q = m := by omega
          go_wp2_with fail
          obtain ⟨wl, hwl⟩ : ∃ wl, wl = wr := ⟨_, rfl⟩
          subst hwl
          have hszl := HQ.out.2.size
          obtain ⟨vals, hvals⟩ := loop2_vals HQ.out.1
          have HV := Lib.hid hvals
          obtain ⟨a0, ha0, az0, az1, az2⟩ := info_parts Tryd.info28
          have hglt : gl < wl.heap.size := (own_typed (v := .slice (some ⟨gl, 0, none⟩) j cl) (by obtain ⟨_, _, _, h3⟩ := HQ.out.1; exact h3) rfl).1.lt
          clear hvals
          go_loopw [13, 60] (fun v i wr => ∃ k : Nat, i = .int .i64 k ∧ k ≤ j ∧ Hid (wr.ownsRow wl.heap.size 28 1 v k ((List.range k).map vals) ∧ Below wl.heap.size wl wr)) (fun _ i _ => j - (intOf i).toNat)
          case atStart => exact ⟨0, rfl, Nat.zero_le _, Lib.hid ⟨⟨rfl, .inl ⟨rfl, rfl⟩⟩, Below.refl _ _⟩⟩
          case round =>
            obtain ⟨k, rfl, hk, HK⟩ := hrel
            by_cases hkj : k < j
            · obtain ⟨v1, v2, v3⟩ := HV.out k hkj
              have hszk := HK.out.2.size
              have c1 : wr.cell? ⟨gl, k, none⟩ = some (.pointer (some ⟨L k, 0, none⟩)) := (HK.out.2.cell (p := ⟨gl, k, none⟩) hglt).trans v1
              have c2 : wr.cell? ⟨L k, 0, none⟩ = some (vals k) := (HK.out.2.cell (p := ⟨L k, 0, none⟩) v2.lt).trans (v2.cell 0)
              have hone : (vals k).oneCell' = true := own_one v3
              obtain ⟨pk, lk, ck, hvk⟩ := own_slice v3
              rw [hvk] at c2 hone
              have HVK := Lib.hid hvk
              clear v1 v2 v3 hvk
              go_wp2_with (first
                | (at_builtin; go_loud (refine wpList_append_lies _ rfl _ _ 25 rfl wl.heap.size 28 a0 _ 1 24 Tryd.underlying25 ha0 az0 az1 az2 rfl (by omega) _ k _ rfl (HK.out.1.alloc _) ⟨wr.heap.size, 0, none⟩ 1 1 [.slice pk lk ck] rfl rfl (World.news_of_block (cs := #[.slice pk lk ck]) (t := 28) (fr := (0, 0)) (heap_alloc_new wr _)) (by simpa using hone) (by omega) (by unfold maxLen; omega) (by omega) (by simp; omega) (wr.heap.size + 1) (by simp) ?_); intro g3 cap3 w3 hown3 hgrow3 hat3 hlt3; have H3 := Lib.hid (And.intro hown3 hgrow3); clear hown3 hgrow3 hat3))
              go_roundw
              case rel =>
                refine ⟨k + 1, by go_num, by omega, Lib.hid ⟨by rw [List.range_succ, List.map_append, List.map_cons, List.map_nil, HVK.out]; exact H3.out.1, ?_⟩⟩
                exact HK.out.2.trans ((((Keeps.refl (fun g => wl.heap.size ≤ g) wr).alloc _).trans ((Keeps.of_grown H3.out.2 (fun g hg => hg)).mono (fun g hg => (own_typed HK.out.1 hg).2))).below hszk (fun _ h => h))
              case measure => simp [intOf]; omega
            · obtain rfl : k = j := by omega
              go_wp2_with fail
              go_ret
              exact ⟨⟨_, rfl, multi_rows hszl HK.out.1 (fun i hi => (HV.out i hi).2.2) HK.out.2⟩, HQ.out.2.trans (HK.out.2.mono hszl)⟩
end Go.Proofs.YtiboiagimcgjkaaDoor
