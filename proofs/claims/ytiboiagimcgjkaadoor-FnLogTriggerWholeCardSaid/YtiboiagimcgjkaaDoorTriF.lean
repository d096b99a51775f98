/- A writer that holds lines back: a line at or above the trigger level; one above the conditional level. -/
import Derived.Test.YtiboiagimcgjkaaDoorTriE
namespace Go.Proofs.YtiboiagimcgjkaaDoor
open Go.RowKit

theorem flush_T (s : TS) : (flush s).T = true := by
  unfold flush
  split
  · assumption
  · rfl
set_option maxRecDepth 100000 in
set_option maxHeartbeats 4000000 in
theorem level_flush (base TW L pb k cap : Nat) (cond trig lv : Int) (tx : List UInt8) (s : TS) (ob : Option Nat) (w : World) (h : TrigAt w base TW L cond trig s ob) (hT : s.T = false) (hlt : trig ≤ lv) (hB : Lines s.B) (hlen : s.B.length ≤ 100) (hP : BA w pb 0 tx) (hPt : Typed w pb 5) (hk : tx.length = k) (hO : s.O.length ≤ 100) (hbase : base ≤ w.heap.size) :
    Calls Tryd.prog 21 #[.pointer (some ⟨TW, 0, none⟩), .int .i8 lv, .slice (some ⟨pb, 0, none⟩) k cap] w fun e w' => (∃ r : Int, e = .returned (.tuple #[.int .i64 r, .nilIface])) ∧ TrigEnd w base TW L cond trig (tline cond trig lv tx s) w' := by
  rw [tline_flush cond trig lv tx hlt, tline_on cond trig lv tx (flush_T s)]
  have c24 := trigger_any base TW L cond trig s ob w h hB hlen hO hbase
  have hO2 : (flush s).O.length ≤ 1000 := by
    rw [flush_no hT]
    show (s.O ++ s.B.map (·.2)).length ≤ 1000
    rw [List.length_append, List.length_map]
    omega
  obtain ⟨bp, htw, _⟩ := h.tw
  rw [hT] at htw
  have t4 : w.cell? ⟨TW, 4, none⟩ = some (.bool false) := htw.cell 4
  have t2 : w.cell? ⟨TW, 2, none⟩ = some (.int .i8 trig) := htw.cell 2
  have hta := assert_no
  have HH := Lib.hid (And.intro hP (And.intro hPt (And.intro hk hO2)))
  have C24 := Lib.hid c24
  have hn5 : ∀ g, Typed w g 5 → ¬ Turns3 w g := fun g hg ht => by
    rcases ht with ht | ht | ht
    · exact hg.ne ht (by decide) rfl
    · exact hg.ne ht (by decide) rfl
    · exact hg.ne ht (by decide) rfl
  have HN := Lib.hid hn5
  clear h hP hPt hk hT htw c24 hO2 hn5 hB
  go_enter Tryd.func21, Tryd.ntmps21
  go_wp2_with fail
  refine C24.out.mono ?_
  rintro e w1 ⟨rfl, hend⟩
  obtain ⟨⟨ob1, h1⟩, hk1, hb1⟩ := hend
  obtain ⟨bp1, htw1, _⟩ := h1.tw
  rw [flush_T] at htw1
  have u0 : w1.cell? ⟨TW, 0, none⟩ = some (.iface 40 (.pointer (some ⟨L, 0, none⟩))) := htw1.cell 0
  have u4 : w1.cell? ⟨TW, 4, none⟩ = some (.bool true) := htw1.cell 4
  have hs1 : base ≤ w1.heap.size := Nat.le_trans hbase hb1.size
  have c83 := lines_write_at L (flush s).O ob1 pb 0 k cap base tx w1 h1.lin (HH.out.1.keep hk1 (HN.out _ HH.out.2.1)) HH.out.2.2.1 HH.out.2.2.2 hs1
  have C83 := Lib.hid c83
  have H1 := Lib.hid (And.intro h1 (And.intro hk1 hb1))
  clear c83 h1 hk1 hb1 htw1 t4 t2
  go_wp2_with (first | (go_at_call 83; refine C83.out.mono ?_; rintro e w2 ⟨rfl, hw2⟩; have HW := Lib.hid hw2; clear hw2))
  go_returns
  obtain ⟨r1, r2, r3⟩ := trig_wrote H1.out.1 hs1 HW.out
  rw [flush_T] at r1
  refine ⟨⟨_, rfl⟩, r1, H1.out.2.1.trans_old r2 (fun g hg ht => ?_), H1.out.2.2.trans r3⟩
  by_cases h3 : Turns3 w g
  · exact h3
  · rcases ht with ht | ht | ht
    · exact .inl (ht.back H1.out.2.1 hg h3)
    · exact .inr (.inl (ht.back H1.out.2.1 hg h3))
    · exact .inr (.inr (ht.back H1.out.2.1 hg h3))

set_option maxRecDepth 100000 in
set_option maxHeartbeats 4000000 in
theorem level_off (base TW L pb k cap : Nat) (cond trig lv : Int) (tx : List UInt8) (s : TS) (ob : Option Nat) (w : World) (h : TrigAt w base TW L cond trig s ob) (hT : s.T = false) (hlt : lv < trig) (hc : cond < lv) (hP : BA w pb 0 tx) (hk : tx.length = k) (hO : s.O.length ≤ 1000) (hbase : base ≤ w.heap.size) :
    Calls Tryd.prog 21 #[.pointer (some ⟨TW, 0, none⟩), .int .i8 lv, .slice (some ⟨pb, 0, none⟩) k cap] w fun e w' => (∃ r : Int, e = .returned (.tuple #[.int .i64 r, .nilIface])) ∧ TrigEnd w base TW L cond trig (tline cond trig lv tx s) w' := by
  rw [tline_off cond trig lv tx hT hlt hc]
  obtain ⟨bp, htw, _⟩ := h.tw
  rw [hT] at htw
  have t0 : w.cell? ⟨TW, 0, none⟩ = some (.iface 40 (.pointer (some ⟨L, 0, none⟩))) := htw.cell 0
  have t1 : w.cell? ⟨TW, 1, none⟩ = some (.int .i8 cond) := htw.cell 1
  have t2 : w.cell? ⟨TW, 2, none⟩ = some (.int .i8 trig) := htw.cell 2
  have t4 : w.cell? ⟨TW, 4, none⟩ = some (.bool false) := htw.cell 4
  have hta := assert_no
  have c83 := lines_write_at L s.O ob pb 0 k cap base tx w h.lin hP hk hO hbase
  have HH := Lib.hid (And.intro h (And.intro hP (And.intro hk hT)))
  have C83 := Lib.hid c83
  clear h hP hk hT htw c83
  go_enter Tryd.func21, Tryd.ntmps21
  go_wp2_with (first | (go_at_call 83; refine C83.out.mono ?_; rintro e w2 ⟨rfl, hw2⟩; have HW := Lib.hid hw2; clear hw2))
  go_returns
  have hr := trig_wrote HH.out.1 hbase HW.out
  rw [HH.out.2.2.2] at hr
  exact ⟨⟨_, rfl⟩, hr⟩
end Go.Proofs.YtiboiagimcgjkaaDoor
