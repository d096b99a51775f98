/- A writer that holds lines back: the walk of LTrigger. -/
import Derived.Test.YtiboiagimcgjkaaDoorTriH
import Derived.Test.YtiboiagimcgjkaaDoorMulN
namespace Go.Proofs.YtiboiagimcgjkaaDoor
open Go.RowKit

/-- A line, as the guard lets it through. -/
def POp (x : LineOp) : Prop := x.tr = false ∧ x.cl = false ∧ Line x.tx ∧ x.tx.length ≤ 100 ∧ -1 ≤ x.lv ∧ x.lv ≤ 7
def TOp (x : LineOp) : Prop := x.tr = true ∨ POp x
theorem lvb_ne (lv : Int) (h1 : -1 ≤ lv) (h2 : lv ≤ 7) : lvb lv ≠ 10 := by
  have : lv = -1 ∨ lv = 0 ∨ lv = 1 ∨ lv = 2 ∨ lv = 3 ∨ lv = 4 ∨ lv = 5 ∨ lv = 6 ∨ lv = 7 := by omega
  rcases this with rfl | rfl | rfl | rfl | rfl | rfl | rfl | rfl | rfl <;> decide
/-- How much the writer holds behind q steps. -/
def Held (q : Nat) (s : TS) : Prop := Lines s.B ∧ s.B.length ≤ q ∧ s.O.length ≤ q ∧ (s.T = false → s.O.length + s.B.length ≤ q)
theorem held_flush {q : Nat} {s : TS} (h : Held q s) : Held q (flush s) := by
  obtain ⟨h1, h2, h3, h4⟩ := h
  cases hT : s.T with
  | true => rw [flush_yes hT]; exact ⟨h1, h2, h3, h4⟩
  | false =>
    rw [flush_no hT]
    refine ⟨h1, h2, ?_, fun h => by cases h⟩
    show (s.O ++ s.B.map (·.2)).length ≤ q
    rw [List.length_append, List.length_map]
    exact h4 hT
theorem held_mono {q : Nat} {s : TS} (h : Held q s) : Held (q + 1) s := by
  obtain ⟨h1, h2, h3, h4⟩ := h
  exact ⟨h1, by omega, by omega, fun h => by have := h4 h; omega⟩
theorem held_pass {q : Nat} {s : TS} (cond lv : Int) (tx : List UInt8) (h : Held q s) (hl : lvb lv ≠ 10) (ht : Line tx) (hn : tx.length ≤ 100) : Held (q + 1) (pass cond lv tx s) := by
  obtain ⟨h1, h2, h3, h4⟩ := h
  unfold pass
  split
  · rename_i hc
    have := h4 hc.1
    refine ⟨fun x hx => ?_, ?_, ?_, fun _ => ?_⟩
    · rcases List.mem_append.1 hx with hx | hx
      · exact h1 x hx
      · rw [List.mem_singleton] at hx
        rw [hx]
        exact ⟨hl, ht, hn⟩
    · show (s.B ++ [(lv, tx)]).length ≤ q + 1
      rw [List.length_append, List.length_singleton]; omega
    · show s.O.length ≤ q + 1
      omega
    · show s.O.length + (s.B ++ [(lv, tx)]).length ≤ q + 1
      rw [List.length_append, List.length_singleton]; omega
  · refine ⟨h1, ?_, ?_, fun hT => ?_⟩
    · show s.B.length ≤ q + 1
      omega
    · show (s.O ++ [tx]).length ≤ q + 1
      rw [List.length_append, List.length_singleton]; omega
    · have := h4 hT
      show (s.O ++ [tx]).length + s.B.length ≤ q + 1
      rw [List.length_append, List.length_singleton]; omega
theorem held_step {q : Nat} {s : TS} (cond trig : Int) (x : LineOp) (h : Held q s) (hx : TOp x) : Held (q + 1) (tstep cond trig s x) := by
  unfold tstep
  split
  · exact held_mono (held_flush h)
  · rename_i ht
    rcases hx with hx | hx
    · exact absurd hx ht
    · unfold tline
      refine held_pass cond x.lv x.tx ?_ (lvb_ne _ hx.2.2.2.2.1 hx.2.2.2.2.2) hx.2.2.1 hx.2.2.2.1
      split
      · exact held_flush h
      · exact h
theorem held_run (cond trig : Int) (ops : Nat → LineOp) : ∀ q, (∀ i, i < q → TOp (ops i)) → Held q (trun cond trig ops q)
  | 0, _ => ⟨(fun x hx => by cases hx), Nat.le_refl 0, Nat.le_refl 0, fun _ => Nat.le_refl 0⟩
  | q + 1, h => held_step cond trig (ops q) (held_run cond trig ops q (fun i hi => h i (by omega))) (h q (by omega))

set_option maxRecDepth 100000 in
theorem call_trigger (base TW L : Nat) (cond trig : Int) (s : TS) (ob : Option Nat) (w : World) (h : TrigAt w base TW L cond trig s ob) (hB : Lines s.B) (hlen : s.B.length ≤ 100) (hO : s.O.length ≤ 100) (hbase : base ≤ w.heap.size) :
    Calls Tryd.prog 18 #[.pointer (some ⟨TW, 0, none⟩)] w fun e w' => e = .returned .nilIface ∧ TrigEnd w base TW L cond trig (flush s) w' := by
  have C24 := Lib.hid (trigger_any base TW L cond trig s ob w h hB hlen hO hbase)
  clear h hB
  go_enter Tryd.func18, Tryd.ntmps18
  go_wp2_with fail
  refine C24.out.mono ?_
  rintro e w1 ⟨rfl, hend⟩
  have HE := Lib.hid hend
  clear hend
  go_wp2_with fail
  go_ret
  exact ⟨rfl, HE.out⟩

theorem trig_start (w : World) (cond trig : Int) : TrigAt ((w.alloc (.cells #[.slice none 0 0] 42)).alloc (.cells #[.iface 40 (.pointer (some ⟨w.heap.size, 0, none⟩)), .int .i8 cond, .int .i8 trig, .pointer none, .bool false] 66)) w.heap.size (w.heap.size + 1) w.heap.size cond trig ⟨false, [], []⟩ none := by
  have hs : (w.alloc (.cells #[.slice none 0 0] 42)).heap.size = w.heap.size + 1 := by simp
  refine ⟨⟨none, ?_, fun _ => .inl ⟨rfl, rfl⟩⟩, ⟨.slice none 0 0, (Whole.new w 42 _).alloc _, ⟨rfl, .inl ⟨rfl, rfl⟩⟩, rfl, fun e => by cases e⟩, by omega, Nat.le_refl _⟩
  have := Whole.new (w.alloc (.cells #[.slice none 0 0] 42)) 66 #[.iface 40 (.pointer (some ⟨w.heap.size, 0, none⟩)), .int .i8 cond, .int .i8 trig, .pointer none, .bool false]
  rw [hs] at this
  exact this

/-- What LTrigger hands back. -/
def TriEnd (w : World) (O : List (List UInt8)) (e : Ending) (w' : World) : Prop := ∃ p c, e = .returned (.slice p O.length c) ∧ w'.ownsRow w.heap.size 9 1 (.slice p O.length c) O.length (O.map str)
theorem wrap_sub (t : ByteArray) (h : 0 < t.size) (h1 : t.size ≤ 1000) : IntKind.i64.wrap ((t.size : Int) - 1) = (t.size : Int) - 1 := by
  rw [IntKind.wrap_i64]
  omega

set_option maxRecDepth 100000 in
set_option maxHeartbeats 8000000 in
theorem ltrigger_walk (cond trig : Int) (m oc : Nat) (ap : Option Addr) (ops : Nat → LineOp) (w : World) (hc1 : -1 ≤ cond) (hc2 : cond ≤ 7) (ht1 : -1 ≤ trig) (ht2 : trig ≤ 7) (hm : m ≤ 41) (hop : OpsAt w ap m ops) (hT : ∀ i, i < m → TOp (ops i)) :
    Calls Tryd.prog 11 #[.int .i64 cond, .int .i64 trig, .slice ap m oc] w fun e w' => TriEnd w (trun cond trig ops m).O e w' ∧ Below w.heap.size w w' := by
  have HO := Lib.hid (And.intro hop hT)
  have hstart := trig_start w cond trig
  have hbs : Below w.heap.size w ((w.alloc (.cells #[.slice none 0 0] 42)).alloc (.cells #[.iface 40 (.pointer (some ⟨w.heap.size, 0, none⟩)), .int .i8 cond, .int .i8 trig, .pointer none, .bool false] 66)) := (alloc_below w _).trans ((alloc_below _ _).mono (by simp))
  have HS := Lib.hid (And.intro hstart hbs)
  clear hop hT hstart hbs
  go_enter Tryd.func11, Tryd.ntmps11
  go_wp2_with fail
  go_loopw [23] (fun i wr => ∃ q : Nat, i = .int .i64 q ∧ q ≤ m ∧ Hid ((∃ ob, TrigAt wr w.heap.size (w.heap.size + 1) w.heap.size cond trig (trun cond trig ops q) ob) ∧ Below w.heap.size w wr)) (fun i _ => m - (intOf i).toNat)
  case atStart => exact ⟨0, rfl, Nat.zero_le _, Lib.hid ⟨⟨none, HS.out.1⟩, HS.out.2⟩⟩
  case round =>
    obtain ⟨q, rfl, hq, HQ⟩ := hrel
    by_cases hqm : q < m
    · have hsz := HQ.out.2.size
      obtain ⟨⟨ob, htr⟩, hbw⟩ := HQ.out
      obtain ⟨hl1, hl2, hl3, _⟩ := held_run cond trig ops q (fun i hi => HO.out.2 i (by omega))
      obtain ⟨tq, htq⟩ : ∃ t : ByteArray, t = ⟨(ops q).tx.toArray⟩ := ⟨_, rfl⟩
      obtain ⟨lq, hlq⟩ : ∃ x : Int, x = (ops q).lv := ⟨_, rfl⟩
      obtain ⟨tr, htrq⟩ : ∃ x : Bool, x = (ops q).tr := ⟨_, rfl⟩
      obtain ⟨cl, hclq⟩ : ∃ x : Bool, x = (ops q).cl := ⟨_, rfl⟩
      obtain ⟨gb, go, rfl, hob, hoq⟩ := HO.out.1 q hqm
      have hx := op_below HQ.out.2 hob hoq
      clear hoq
      obtain ⟨x0, x1, x2, x3⟩ := hx
      unfold str at x1
      rw [← htq] at x1
      rw [← hlq] at x0
      rw [← htrq] at x2
      rw [← hclq] at x3
      have HTOP := Lib.hid (HO.out.2 q hqm)
      have HTQ := Lib.hid (And.intro htq (And.intro hlq (And.intro htrq hclq)))
      have HTR := Lib.hid (And.intro htr (And.intro hl1 (And.intro hl2 (And.intro hl3 hbw))))
      clear htq hlq htrq hclq htr hl1 hl2 hl3 hbw
      cases tr with
      | true =>
        have ka : Keeps (fun _ => False) wr (wr.alloc (.cells #[.int .i64 lq, .string tq, .bool true, .bool cl] 34)) := (Keeps.refl _ wr).alloc _
        have C18 := Lib.hid (call_trigger w.heap.size (w.heap.size + 1) w.heap.size cond trig (trun cond trig ops q) ob _ (HTR.out.1.later ka) HTR.out.2.1 (by have := HTR.out.2.2.1; omega) (by have := HTR.out.2.2.2.1; omega) (Nat.le_trans hsz ka.size))
        have KA := Lib.hid ka
        clear ka
        go_wp2_with (first | (go_at_call 18; refine C18.out.mono ?_; rintro e w2 ⟨rfl, hend⟩; have HE := Lib.hid hend; clear hend))
        go_roundw
        case rel =>
          refine ⟨q + 1, by go_num, by omega, Lib.hid ⟨?_, HTR.out.2.2.2.2.trans ((KA.out.below hsz (fun _ h => h.elim)).trans HE.out.2.2)⟩⟩
          have : trun cond trig ops (q + 1) = flush (trun cond trig ops q) := by
            show tstep cond trig (trun cond trig ops q) (ops q) = _
            unfold tstep
            rw [if_pos HTQ.out.2.2.1.symm]
          rw [this]
          exact HE.out.1
        case measure => simp [intOf]; omega
      | false =>
        have hP : POp (ops q) := by
          rcases HTOP.out with h | h
          · rw [← HTQ.out.2.2.1] at h
            cases h
          · exact h
        obtain ⟨_, p2, p3, p4, p5, p6⟩ := hP
        rw [← HTQ.out.2.2.2] at p2
        subst p2
        rw [← HTQ.out.2.1] at p5 p6
        have hzq : tq.size = (ops q).tx.length := by rw [HTQ.out.1]; show (ops q).tx.toArray.size = _; simp
        have hz0 : 0 < tq.size := by rw [hzq]; exact p3.pos
        have hz1 : tq.size ≤ 100 := by rw [hzq]; exact p4
        have hidx : Lib.indexByte tq.data.toList 10 = (tq.size : Int) - 1 := by
          obtain ⟨pre, hpre, hne⟩ := p3
          have h1 := index_line pre [] hne
          have h2 : tq.data.toList = pre ++ [10] := by rw [HTQ.out.1]; exact hpre
          rw [h2, h1, hzq, hpre, List.length_append, List.length_singleton]
          omega
        have c20 : ∀ W, Calls Tryd.prog 20 #[.string tq, .int .u8 10] W fun e w' => e = .returned (.int .i64 ((tq.size : Int) - 1)) ∧ w' = W := fun W => by
          have h := Tryd.strings_IndexByte tq 10 W
          have h1 : Lib.indexByte tq.data.toList (10 : Int).toNat.toUInt8 = (tq.size : Int) - 1 := hidx
          rw [h1] at h
          exact h
        have C20 := Lib.hid c20
        have hws := wrap_sub tq hz0 (by omega)
        have HZ := Lib.hid (And.intro hzq (And.intro p3 (And.intro p4 hidx)))
        have he1 : tq.toList.isEmpty = false := by
          cases h : tq.toList with
          | nil => rw [Lib.toList_data] at h; rw [h] at hidx; simp [Lib.indexByte] at hidx; omega
          | cons a l => rfl
        have he2 : (lq % 256 == 10) = false := by simp; omega
        have he3 : (lq % 256 != 10) = true := by simp; omega
        have hcv := conv_bytes tq
        clear c20 hzq p3 p4 hidx
        go_wp2_with fail
        go_quiet ((go_at_call 20; exact Calls.quiet_of_same (C20.out _)))
        go_wp2_with fail
        obtain ⟨Wd, hWd⟩ : ∃ Wd, Wd = (wr.alloc (.cells #[.int .i64 lq, .string tq, .bool false, .bool false] 34)).drewN nq := ⟨_, rfl⟩
        rw [← hWd]
        have hds : Wd.heap.size = wr.heap.size + 1 := by rw [hWd]; simp
        have k1 : Keeps (fun _ => False) wr Wd := by
          rw [hWd]
          exact ((Keeps.refl _ wr).alloc _).drewN nq
        have k2 : Keeps (fun _ => False) wr (Lib.bytesWorld Wd 5 tq) := k1.trans (Keeps.of_below (Joins.below_bytesWorld _ _ _ _ (Nat.le_refl _)) _)
        have hba := (BB.conv Wd tq).ba
        have hbt := bytes_typed Wd tq
        rw [hds] at hba hbt
        have htl : tq.data.toList = (ops q).tx := by rw [HTQ.out.1]
        have h21 := write_level w.heap.size (w.heap.size + 1) w.heap.size (wr.heap.size + 1) tq.size (grownCap Wd tq.size 0 5) cond trig lq tq.data.toList (trun cond trig ops q) ob wr (Lib.bytesWorld Wd 5 tq) HTR.out.1 k2 (by omega) (fun _ => HTR.out.2.1) (by have := HTR.out.2.2.1; omega) hba hbt (by rw [htl]; exact HZ.out.1.symm) (by omega) (by have := HTR.out.2.2.2.1; omega) hsz
        have C21 := Lib.hid h21
        have KW := Lib.hid (And.intro k2 htl)
        clear h21 hba hbt k1 k2 hWd hds htl
        refine C21.out.mono ?_
        rintro e w2 ⟨⟨r, rfl⟩, hend, hb2⟩
        have HE := Lib.hid (And.intro hend hb2)
        clear hend hb2
        go_wp2_with fail
        go_roundw
        case rel =>
          refine ⟨q + 1, by go_num, by omega, Lib.hid ⟨?_, HTR.out.2.2.2.2.trans ((KW.out.1.below hsz (fun _ h => h.elim)).trans HE.out.2)⟩⟩
          have : trun cond trig ops (q + 1) = tline cond trig lq tq.data.toList (trun cond trig ops q) := by
            show tstep cond trig (trun cond trig ops q) (ops q) = _
            unfold tstep
            rw [if_neg (by rw [← HTQ.out.2.2.1]; simp), KW.out.2, HTQ.out.2.1]
          rw [this]
          exact HE.out.1
        case measure => simp [intOf]; omega
    · obtain rfl : q = m := by omega
      obtain ⟨⟨ob, htr⟩, hbw⟩ := HQ.out
      obtain ⟨v, hL, hown, _⟩ := htr.lin
      obtain ⟨p, c, hv, _⟩ := own_form hown
      subst hv
      have hc0 : wr.cell? ⟨w.heap.size, 0, none⟩ = some (.slice p (trun cond trig ops q).O.length c) := hL.cell 0
      have HE := Lib.hid (And.intro hown hbw)
      clear htr hL hown hbw
      go_wp2_with fail
      go_ret
      exact ⟨⟨p, c, rfl, HE.out.1⟩, HE.out.2⟩
end Go.Proofs.YtiboiagimcgjkaaDoor
