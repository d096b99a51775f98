/- A writer that holds lines back: trigger in every state; a line that is passed on. -/
import Derived.Test.YtiboiagimcgjkaaDoorTriD
namespace Go.Proofs.YtiboiagimcgjkaaDoor
open Go.RowKit

theorem TrigAt.keep {S : Nat → Prop} {w w' : World} {base TW L : Nat} {cond trig : Int} {s : TS} {ob : Option Nat} (h : TrigAt w base TW L cond trig s ob) (k : Keeps S w w') (hS : ∀ g, Typed w g 66 ∨ Typed w g 42 ∨ Typed w g 9 ∨ Typed w g 86 ∨ Typed w g 5 → ¬ S g) : TrigAt w' base TW L cond trig s ob := by
  obtain ⟨bp, htw, hb⟩ := h.tw
  refine ⟨⟨bp, htw.keep k (hS _ (.inl htw.typed)), fun hT => ?_⟩, h.lin.keep k (hS _ (.inr (.inl h.lin.typed))) (fun g hg => hS _ (.inr (.inr (.inl (h.lin.row hg).1)))), h.bT, h.bL⟩
  rcases hb hT with hb | ⟨hne, b, e, hb⟩
  · exact .inl hb
  · refine .inr ⟨hne, b, e, buf_keep hb k (hS _ ?_) (fun g hg => hS _ (.inr (.inr (.inr (.inr hg)))))⟩
    obtain ⟨_, _, _, hbk, _⟩ := hb
    exact .inr (.inr (.inr (.inl ⟨_, _, hbk⟩)))
theorem TrigAt.later {w w' : World} {base TW L : Nat} {cond trig : Int} {s : TS} {ob : Option Nat} (h : TrigAt w base TW L cond trig s ob) (k : Keeps (fun _ => False) w w') : TrigAt w' base TW L cond trig s ob := h.keep k (fun _ _ => id)
/-- A line has been handed on. -/
theorem trig_wrote {w w' : World} {base TW L : Nat} {cond trig : Int} {s : TS} {ob : Option Nat} {tx : List UInt8} (h : TrigAt w base TW L cond trig s ob) (hbase : base ≤ w.heap.size) (hw : Wrote w base L (s.O ++ [tx]) ob w') :
    (∃ ob', TrigAt w' base TW L cond trig ⟨s.T, s.B, s.O ++ [tx]⟩ ob') ∧ Keeps (Turns3 w) w w' ∧ Below base w w' := by
  obtain ⟨ob', w1, w2, w3⟩ := hw
  have hne : ∀ {i t}, Typed w i t → t ≠ 42 → t ≠ 9 → ¬ (i = L ∨ ob = some i) := fun {i t} ht h1 h2 hs => by
    rcases hs with hs | hs
    · exact ht.ne h.lin.typed h1 hs
    · exact ht.ne (h.lin.row hs).1 h2 rfl
  obtain ⟨bp, htw, hb⟩ := h.tw
  refine ⟨⟨ob', ⟨bp, htw.keep w3 (hne htw.typed (by decide) (by decide)), fun hT => ?_⟩, w1, h.bT, h.bL⟩, w3.mono (fun g hs => ?_), w3.below hbase (fun g hs => ?_)⟩
  · rcases hb hT with hb | ⟨hn0, b, e, hb⟩
    · exact .inl hb
    · refine .inr ⟨hn0, b, e, buf_keep hb w3 ?_ (fun g hg => hne hg (by decide) (by decide))⟩
      obtain ⟨_, _, _, hbk, _⟩ := hb
      exact hne (t := 86) ⟨_, _, hbk⟩ (by decide) (by decide)
  · rcases hs with hs | hs
    · rw [hs]; exact .inr (.inl h.lin.typed)
    · exact .inr (.inr (h.lin.row hs).1)
  · rcases hs with hs | hs
    · rw [hs]; exact h.bL
    · exact (h.lin.row hs).2

/-- What a step of the writer leaves. -/
def TrigEnd (w : World) (base TW L : Nat) (cond trig : Int) (s : TS) (w' : World) : Prop := (∃ ob', TrigAt w' base TW L cond trig s ob') ∧ Keeps (Turns3 w) w w' ∧ Below base w w'

set_option maxRecDepth 100000 in
set_option maxHeartbeats 4000000 in
theorem trigger_any (base TW L : Nat) (cond trig : Int) (s : TS) (ob : Option Nat) (w : World) (h : TrigAt w base TW L cond trig s ob) (hB : Lines s.B) (hlen : s.B.length ≤ 100) (hO : s.O.length ≤ 100) (hbase : base ≤ w.heap.size) :
    Calls Tryd.prog 24 #[.pointer (some ⟨TW, 0, none⟩)] w fun e w' => e = .returned .nilIface ∧ TrigEnd w base TW L cond trig (flush s) w' := by
  obtain ⟨bp, htw, hb⟩ := h.tw
  obtain ⟨T, B, O⟩ := s
  cases T with
  | true =>
    rw [flush_yes rfl]
    have t4 : w.cell? ⟨TW, 4, none⟩ = some (.bool true) := htw.cell 4
    have HT := Lib.hid (And.intro h htw)
    clear h htw hb
    go_enter Tryd.func24, Tryd.ntmps24
    go_wp2_with fail
    go_ret
    exact ⟨rfl, ⟨ob, HT.out.1⟩, Keeps.refl _ _, Below.refl _ _⟩
  | false =>
    rw [flush_no rfl]
    rcases hb rfl with ⟨hb0, rfl⟩ | ⟨hne, b, rfl, hbuf⟩
    · have hb0 : B = [] := hb0
      subst hb0
      have t4 : w.cell? ⟨TW, 4, none⟩ = some (.bool false) := htw.cell 4
      have t3 : w.cell? ⟨TW, 3, none⟩ = some (.pointer none) := htw.cell 3
      have f4 := htw.frozen 4
      have k1 : Keeps (fun g => g = TW) w (w.setCell ⟨TW, 4, none⟩ (.bool true)) := (Keeps.refl (fun g => g = TW) w).set (p := ⟨TW, 4, none⟩) (.inl rfl) _
      have tw1 : Whole (w.setCell ⟨TW, 4, none⟩ (.bool true)) TW 66 #[.iface 40 (.pointer (some ⟨L, 0, none⟩)), .int .i8 cond, .int .i8 trig, .pointer none, .bool true] := htw.set 4 (.bool true)
      have lin1 : LinesAt (w.setCell ⟨TW, 4, none⟩ (.bool true)) base L O ob := h.lin.keep k1 (fun e => h.lin.typed.ne htw.typed (by decide) e) (fun g hg e => (h.lin.row hg).1.ne htw.typed (by decide) e)
      have HH := Lib.hid (And.intro tw1 (And.intro lin1 (And.intro (k1.mono (T := Turns3 w) (fun g e => .inl (by rw [e]; exact htw.typed))) (And.intro (k1.below hbase (fun g e => by rw [e]; exact h.bT)) h))))
      clear h htw hb k1 tw1 lin1
      go_enter Tryd.func24, Tryd.ntmps24
      go_wp2_with fail
      go_ret
      refine ⟨rfl, ⟨ob, ⟨_, HH.out.1, fun h => by cases h⟩, ?_, HH.out.2.2.2.2.bT, HH.out.2.2.2.2.bL⟩, HH.out.2.2.1, HH.out.2.2.2.1⟩
      simpa using HH.out.2.1
    · exact trigger_walk base TW L cond trig B O ob b w htw h.lin hbuf hne hB hlen hO h.bT h.bL hbase

/-- A line at once. -/
theorem tline_on {s : TS} (cond trig lv : Int) (tx : List UInt8) (h : s.T = true) : tline cond trig lv tx s = ⟨true, s.B, s.O ++ [tx]⟩ := by
  unfold tline
  rw [flush_yes h]
  have : (if trig ≤ lv then s else s) = s := by split <;> rfl
  rw [this]
  unfold pass
  rw [if_neg (by rw [h]; simp), h]
theorem tline_flush {s : TS} (cond trig lv : Int) (tx : List UInt8) (h : trig ≤ lv) : tline cond trig lv tx s = tline cond trig lv tx (flush s) := by
  unfold tline
  rw [if_pos h, if_pos h]
  have hT : (flush s).T = true := by unfold flush; split <;> simp_all
  rw [flush_yes hT]
theorem tline_off {s : TS} (cond trig lv : Int) (tx : List UInt8) (hT : s.T = false) (h : lv < trig) (hc : cond < lv) : tline cond trig lv tx s = ⟨false, s.B, s.O ++ [tx]⟩ := by
  unfold tline
  rw [if_neg (by omega)]
  unfold pass
  rw [if_neg (by omega), hT]
theorem tline_hold {s : TS} (cond trig lv : Int) (tx : List UInt8) (hT : s.T = false) (h : lv < trig) (hc : lv ≤ cond) : tline cond trig lv tx s = ⟨false, s.B ++ [(lv, tx)], s.O⟩ := by
  unfold tline
  rw [if_neg (by omega)]
  unfold pass
  rw [if_pos ⟨hT, hc⟩]

set_option maxRecDepth 100000 in
set_option maxHeartbeats 4000000 in
theorem level_on (base TW L pb k cap : Nat) (cond trig lv : Int) (tx : List UInt8) (s : TS) (ob : Option Nat) (w : World) (h : TrigAt w base TW L cond trig s ob) (hT : s.T = true) (hP : BA w pb 0 tx) (hk : tx.length = k) (hO : s.O.length ≤ 1000) (hbase : base ≤ w.heap.size) :
    Calls Tryd.prog 21 #[.pointer (some ⟨TW, 0, none⟩), .int .i8 lv, .slice (some ⟨pb, 0, none⟩) k cap] w fun e w' => (∃ r : Int, e = .returned (.tuple #[.int .i64 r, .nilIface])) ∧ TrigEnd w base TW L cond trig (tline cond trig lv tx s) w' := by
  rw [tline_on cond trig lv tx hT]
  obtain ⟨bp, htw, _⟩ := h.tw
  rw [hT] at htw
  have t0 : w.cell? ⟨TW, 0, none⟩ = some (.iface 40 (.pointer (some ⟨L, 0, none⟩))) := htw.cell 0
  have t4 : w.cell? ⟨TW, 4, none⟩ = some (.bool true) := htw.cell 4
  have hta := assert_no
  have c83 := lines_write_at L s.O ob pb 0 k cap base tx w h.lin hP hk hO hbase
  have HH := Lib.hid (And.intro h (And.intro hP (And.intro hk hT)))
  have C83 := Lib.hid c83
  clear h hP hk hT htw c83
  go_enter Tryd.func21, Tryd.ntmps21
  go_wp2_with (first | (go_at_call 83; refine C83.out.mono ?_; rintro e w2 ⟨rfl, hw2⟩; have HW := Lib.hid hw2; clear hw2))
  go_returns
  have hr := trig_wrote HH.out.1 hbase HW.out
  rw [HH.out.2.2.2] at hr
  exact ⟨⟨_, rfl⟩, hr⟩
end Go.Proofs.YtiboiagimcgjkaaDoor
