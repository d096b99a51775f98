/- A writer that holds lines back: the walk of trigger. -/
import Derived.Test.YtiboiagimcgjkaaDoorTriC
import Derived.Test.YtiboiagimcgjkaaDoorMulM
namespace Go.Proofs.YtiboiagimcgjkaaDoor
open Go.RowKit

def Lines (B : List (Int × List UInt8)) : Prop := ∀ x ∈ B, lvb x.1 ≠ 10 ∧ Line x.2 ∧ x.2.length ≤ 100
theorem flush_yes {s : TS} (h : s.T = true) : flush s = s := by unfold flush; rw [if_pos h]
theorem flush_no {s : TS} (h : s.T = false) : flush s = ⟨true, s.B, s.O ++ s.B.map (·.2)⟩ := by unfold flush; rw [if_neg (by rw [h]; simp)]
/-- What is left of the buffer's bytes. -/
def Rest (w : World) (A : Option Addr) (n c : Nat) (g : Nat) (l : List UInt8) : Prop := l.length = n ∧ n ≤ c ∧ c ≤ maxLen ∧ (0 < n → ∃ o, A = some ⟨g, o, none⟩ ∧ BA w g o l)
theorem Line.pos {tx : List UInt8} (h : Line tx) : 0 < tx.length := by
  obtain ⟨pre, rfl, _⟩ := h
  rw [List.length_append]
  simp
theorem enc_len : ∀ (B : List (Int × List UInt8)), (∀ x ∈ B, x.2.length ≤ 100) → (enc B).length ≤ B.length * 101
  | [], _ => Nat.le_refl 0
  | x :: B, h => by
    have := enc_len B (fun y hy => h y (List.mem_cons_of_mem _ hy))
    have hx := h x List.mem_cons_self
    rw [enc_cons, List.length_append, List.length_cons, List.length_cons]
    omega
/-- The loop of trigger: j lines have been handed on. -/
def Loop24 (w0 : World) (base TW L : Nat) (B : List (Int × List UInt8)) (O : List (List UInt8)) (cells : Array Value) (g : Nat) (j : Nat) (A : Option Addr) (n c : Nat) (w : World) : Prop :=
  (∃ ob, LinesAt w base L (O ++ (B.take j).map (·.2)) ob) ∧ Rest w A n c g (enc (B.drop j)) ∧ Whole w TW 66 cells ∧ Typed w g 5 ∧ Keeps (Turns3 w0) w0 w ∧ Below base w0 w

theorem ba_of_own {w : World} {base n c : Nat} {p : Option Addr} {l : List UInt8} (h : w.ownsRow base 5 1 (.slice p n c) n (Lib.byteCells l)) (hl : 0 < l.length) : ∃ g, p = some ⟨g, 0, none⟩ ∧ BA w g 0 l ∧ Typed w g 5 ∧ l.length = n ∧ n ≤ c ∧ c ≤ maxLen := by
  have hn : l.length = n := by
    have := h.1
    rw [Lib.byteCells_length] at this
    omega
  rcases h.2 with ⟨_, h1⟩ | ⟨g, cap, cur, he, hb, hgg, hlen, hcm, hsz, hpre⟩
  · omega
  · injection he with e1 e2 e3
    subst e1 e3
    have hw : Whole w g 5 cur := hgg
    refine ⟨g, rfl, ⟨hw.lt, fun i hi => ?_⟩, hw.typed, hn, hlen, hcm⟩
    rw [Nat.zero_add, hw.cell]
    have h5 := congrArg (·[i]?) hpre
    have h6 : (Lib.byteCells l)[i]? = some (.int .u8 (l[i].toNat : Int)) := by
      unfold Lib.byteCells
      rw [List.getElem?_map, List.getElem?_eq_getElem hi]
      rfl
    simp only [h6] at h5
    rw [List.getElem?_take_of_lt (by omega)] at h5
    simpa using h5
/-- One line more is handed on. -/
theorem loop24_next {w wr w' : World} {base TW L g j k n c n' c' o : Nat} {B : List (Int × List UInt8)} {O : List (List UInt8)} {cells : Array Value} {A A' : Option Addr} {x : Int × List UInt8} {ob : Option Nat}
    (h : Loop24 w base TW L B O cells g j A n c wr) (hl : LinesAt wr base L (O ++ (B.take j).map (·.2)) ob) (hL : Typed w L 42) (bL : base ≤ L) (hbase : base ≤ w.heap.size) (hx : B[j]? = some x) (hk : x.2.length = k) (hba : BA wr g o (enc (B.drop j)))
    (hw : Wrote wr base L (O ++ (B.take j).map (·.2) ++ [x.2]) ob w') (hn : n' = n - (k + 1)) (hc : c' = c - (k + 1)) (hA' : 0 < n' → A' = some ⟨g, o + (k + 1), none⟩) : Loop24 w base TW L B O cells g (j + 1) A' n' c' w' := by
  obtain ⟨_, ⟨r1, r2, r3, _⟩, htw, hg5, hk0, hb0⟩ := h
  obtain ⟨ob', w1, w2, w3⟩ := hw
  have hj : j < B.length := (List.getElem?_eq_some_iff.1 hx).1
  have hd : B.drop j = x :: B.drop (j + 1) := by
    rw [List.drop_eq_getElem_cons hj]
    congr 1
    exact Option.some.inj ((List.getElem?_eq_getElem hj).symm.trans hx)
  have ht : B.take (j + 1) = B.take j ++ [x] := by rw [List.take_succ_eq_append_getElem hj, ← Option.some.inj ((List.getElem?_eq_getElem hj).symm.trans hx)]
  have hne : ∀ {i t}, Typed wr i t → t ≠ 42 → t ≠ 9 → ¬ (i = L ∨ ob = some i) := fun {i t} ht h1 h2 hs => by
    rcases hs with hs | hs
    · exact ht.ne hl.typed h1 hs
    · exact ht.ne (hl.row hs).1 h2 rfl
  rw [hd, enc_cons] at hba
  rw [hd, enc_cons, List.length_append, List.length_cons, hk] at r1
  have hlen : (lvb x.1 :: x.2).length = k + 1 := by rw [List.length_cons, hk]
  refine ⟨⟨ob', ?_⟩, ⟨?_, ?_, ?_, fun h0 => ⟨o + (k + 1), hA' h0, ?_⟩⟩, htw.keep w3 (hne htw.typed (by decide) (by decide)), hg5.keep w3 (hne hg5 (by decide) (by decide)), ?_, ?_⟩
  · rw [ht, List.map_append, ← List.append_assoc]
    exact w1
  · omega
  · omega
  · omega
  · exact (hba.drop (k + 1) hlen).keep w3 (hne hg5 (by decide) (by decide))
  · refine hk0.trans_old w3 (fun i hi hs => ?_)
    rcases hs with hs | hs
    · rw [hs]
      exact .inr (.inl hL)
    · by_cases ht3 : Turns3 w i
      · exact ht3
      · exact .inr (.inr ((hl.row hs).1.back hk0 hi ht3))
  · refine hb0.trans (w3.below (Nat.le_trans hbase hb0.size) (fun i hs => ?_))
    rcases hs with hs | hs
    · rw [hs]; exact bL
    · exact (hl.row hs).2

set_option maxRecDepth 100000 in
set_option maxHeartbeats 8000000 in
theorem trigger_walk (base TW L : Nat) (cond trig : Int) (B : List (Int × List UInt8)) (O : List (List UInt8)) (ob : Option Nat) (b : Nat) (w : World) (htw : Whole w TW 66 #[.iface 40 (.pointer (some ⟨L, 0, none⟩)), .int .i8 cond, .int .i8 trig, .pointer (some ⟨b, 0, none⟩), .bool false])
    (hlin : LinesAt w base L O ob) (hbuf : Lib.IsBuffer 86 5 base b (Lib.byteCells (enc B)) w) (hne : B ≠ []) (hB : Lines B) (hlen : B.length ≤ 100) (hO : O.length ≤ 100) (bT : base ≤ TW) (bL : base ≤ L) (hbase : base ≤ w.heap.size) :
    Calls Tryd.prog 24 #[.pointer (some ⟨TW, 0, none⟩)] w fun e w' => e = .returned .nilIface ∧ (∃ ob', TrigAt w' base TW L cond trig ⟨true, B, O ++ B.map (·.2)⟩ ob') ∧ Keeps (Turns3 w) w w' ∧ Below base w w' := by
  have k1 : Keeps (Turns3 w) w (w.setCell ⟨TW, 4, none⟩ (.bool true)) := (Keeps.refl _ w).set (p := ⟨TW, 4, none⟩) (.inl (.inl htw.typed)) _
  have b1 : Below base w (w.setCell ⟨TW, 4, none⟩ (.bool true)) := (Below.refl _ _).setCell (p := ⟨TW, 4, none⟩) bT _
  have hbt : Typed w b 86 := by obtain ⟨_, _, _, hb, _⟩ := hbuf; exact ⟨_, _, hb⟩
  have n5 : ∀ g, Typed w g 5 → ¬ Turns3 w g := fun g hg ht => by
    rcases ht with ht | ht | ht
    · exact hg.ne ht (by decide) rfl
    · exact hg.ne ht (by decide) rfl
    · exact hg.ne ht (by decide) rfl
  have n86 : ¬ Turns3 w b := fun ht => by
    rcases ht with ht | ht | ht
    · exact hbt.ne ht (by decide) rfl
    · exact hbt.ne ht (by decide) rfl
    · exact hbt.ne ht (by decide) rfl
  have hbuf1 := buf_keep hbuf k1 n86 n5
  have cB := Tryd.Buffer_Bytes base b _ _ hbuf1
  have t0 := htw.cell 0
  have t3 := htw.cell 3
  have t4 := htw.cell 4
  have f4 := htw.frozen 4
  have tw1 : Whole (w.setCell ⟨TW, 4, none⟩ (.bool true)) TW 66 #[.iface 40 (.pointer (some ⟨L, 0, none⟩)), .int .i8 cond, .int .i8 trig, .pointer (some ⟨b, 0, none⟩), .bool true] := htw.set 4 (.bool true)
  have hta := assert_no
  have lin1 : LinesAt (w.setCell ⟨TW, 4, none⟩ (.bool true)) base L O ob := by
    refine hlin.keep (S := fun g => g = TW) ((Keeps.refl (fun g => g = TW) w).set (p := ⟨TW, 4, none⟩) (.inl rfl) _) (fun e => ?_) (fun g hg e => ?_)
    · exact hlin.typed.ne htw.typed (by decide) e
    · exact (hlin.row hg).1.ne htw.typed (by decide) e
  have HH := Lib.hid (And.intro k1 (And.intro b1 (And.intro tw1 lin1)))
  have hpos : 0 < (enc B).length := by
    cases B with
    | nil => exact absurd rfl hne
    | cons x B => rw [enc_cons, List.length_append, List.length_cons]; omega
  have HP := Lib.hid hpos
  have CB := Lib.hid cB
  have HB := Lib.hid (And.intro hB (And.intro hne hlin.typed))
  have HN5 := Lib.hid n5
  clear k1 b1 hbuf1 cB hpos htw hlin hbuf hB hne tw1 lin1 n5 n86 hbt
  go_enter Tryd.func24, Tryd.ntmps24
  go_wp2_with fail
  refine CB.out.mono ?_
  rintro e w1 ⟨v, rfl, hown, d, hw1⟩
  obtain ⟨p, c, hv, _⟩ := own_form hown
  subst hv
  obtain ⟨g, hg, hba, ht5, hn, hnc, hcm⟩ := ba_of_own hown HP.out
  subst hg
  have HO1 := Lib.hid (And.intro hba (And.intro ht5 (And.intro hn (And.intro hnc (And.intro hcm hw1)))))
  clear hown hw1 hba ht5 hn hnc hcm
  go_wp2_with fail
  have hstart : Loop24 w base TW L B O #[.iface 40 (.pointer (some ⟨L, 0, none⟩)), .int .i8 cond, .int .i8 trig, .pointer (some ⟨b, 0, none⟩), .bool true] g 0 (some ⟨g, 0, none⟩) (Lib.byteCells (enc B)).length c w1 := by
    obtain ⟨hba, ht5, hn, hnc, hcm, hw1⟩ := HO1.out
    refine ⟨⟨ob, ?_⟩, ⟨by rw [List.drop_zero]; exact hn, hnc, hcm, fun _ => ⟨0, rfl, by rw [List.drop_zero]; exact hba⟩⟩, ?_, ht5, ?_, ?_⟩
    · rw [hw1]
      simpa using HH.out.2.2.2.later ((Keeps.refl _ _).drewN d)
    · rw [hw1]
      exact HH.out.2.2.1
    · rw [hw1]
      exact HH.out.1.drewN d
    · rw [hw1]
      exact HH.out.2.1.trans ⟨rfl, rfl, rfl, Nat.le_refl _, fun _ _ => rfl⟩
  have HS := Lib.hid hstart
  clear hstart t3 t4 f4 t0
  go_loopw [3] (fun v wr => ∃ (j : Nat) (A : Option Addr) (n c : Nat), v = .slice A n c ∧ j ≤ B.length ∧ Hid (Loop24 w base TW L B O #[.iface 40 (.pointer (some ⟨L, 0, none⟩)), .int .i8 cond, .int .i8 trig, .pointer (some ⟨b, 0, none⟩), .bool true] g j A n c wr)) (fun v _ => match v with | .slice _ n _ => n | _ => 0)
  case atStart => exact ⟨0, _, _, c, rfl, Nat.zero_le _, HS⟩
  case round =>
    obtain ⟨j, A, n, c, rfl, hj, HR⟩ := hrel
    rcases Nat.eq_zero_or_pos n with rfl | hn0
    · go_wp2_with fail
      go_ret
      obtain ⟨⟨obr, hlr⟩, ⟨r1, _⟩, htw, _, hk, hb⟩ := HR.out
      have hjB : B.length ≤ j := by
        rcases Nat.lt_or_ge j B.length with h | h
        · rw [List.drop_eq_getElem_cons h, enc_cons, List.length_append, List.length_cons] at r1
          omega
        · exact h
      rw [List.take_of_length_le hjB] at hlr
      exact ⟨rfl, ⟨obr, ⟨⟨_, htw, fun h => by cases h⟩, hlr, bT, bL⟩⟩, hk, hb⟩
    · have hjl : j < B.length := by
        rcases Nat.lt_or_ge j B.length with h | h
        · exact h
        · have := HR.out.2.1.1
          rw [List.drop_eq_nil_of_le h] at this
          simp [enc] at this
          omega
      obtain ⟨o, hA, hba⟩ := HR.out.2.1.2.2.2 hn0
      obtain ⟨obr, hlr⟩ := HR.out.1
      have hn1 := HR.out.2.1.1
      have hn2 := HR.out.2.1.2.1
      have hn3 := HR.out.2.1.2.2.1
      unfold maxLen at hn3
      obtain ⟨x, hx⟩ : ∃ x, B[j]? = some x := ⟨_, List.getElem?_eq_getElem hjl⟩
      have hxm : x ∈ B := List.mem_of_getElem? hx
      obtain ⟨q1, q2, q3⟩ := HB.out.1 x hxm
      have hd : B.drop j = x :: B.drop (j + 1) := by
        rw [List.drop_eq_getElem_cons hjl]
        congr 1
        exact Option.some.inj ((List.getElem?_eq_getElem hjl).symm.trans hx)
      obtain ⟨k, hk⟩ : ∃ k, x.2.length = k := ⟨_, rfl⟩
      have hk0 : 0 < k := by rw [← hk]; exact q2.pos
      have hle : k + 1 ≤ n := by
        rw [hd, enc_cons, List.length_append, List.length_cons, hk] at hn1
        omega
      have c34 : Calls Tryd.prog 34 #[.slice (some ⟨g, o, none⟩) n c, .int .u8 10] wr fun e w' => e = .returned (.int .i64 k) ∧ w' = wr := by
        have h := Tryd.bytes_IndexByte_at ⟨g, o, none⟩ n c ((enc (B.drop j)).map fun b => (b.toNat : Int)) 10 wr (by simpa using hn1) (fun i hi => by
          have hi' : i < (enc (B.drop j)).length := by omega
          have := hba.2 i hi'
          rw [Lib.addr_add, this]
          congr 2
          simp [hi'])
        rw [bytes_ints] at h
        have he : Lib.indexByte (enc (B.drop j)) 10 = (k : Int) := by
          rw [hd, enc_cons, index_enc _ _ _ q1 q2, hk]
        have he' : Lib.indexByte (enc (B.drop j)) (10 : Int).toNat.toUInt8 = (k : Int) := he
        rw [he'] at h
        exact h
      have hwr : Calls Tryd.prog 83 #[.pointer (some ⟨L, 0, none⟩), .slice (some ⟨g, o + 1, none⟩) k (c - 1)] wr fun e w' => e = .returned (.tuple #[.int .i64 k, .nilIface]) ∧ Wrote wr base L (O ++ (B.take j).map (·.2) ++ [x.2]) obr w' := by
        have hb1 : BA wr g (o + 1) x.2 := by
          have h1 := hba
          rw [hd, enc_cons] at h1
          exact BA.drop (a := [lvb x.1]) (h1.take) 1 rfl
        refine lines_write_at L _ obr g (o + 1) k (c - 1) base x.2 wr hlr hb1 hk ?_ ?_
        · have : (B.take j).length ≤ 100 := by rw [List.length_take]; omega
          rw [List.length_append, List.length_map]
          omega
        · exact Nat.le_trans hbase HR.out.2.2.2.2.1.size
      have t0 : wr.cell? ⟨TW, 0, none⟩ = some (.iface 40 (.pointer (some ⟨L, 0, none⟩))) := HR.out.2.2.1.cell 0
      have l0 : wr.cell? ⟨g, o, none⟩ = some (.int .u8 (lvb x.1).toNat) := by
        have h1 := hba
        rw [hd, enc_cons] at h1
        have := h1.2 0 (by simp)
        simpa using this
      subst hA
      have HX := Lib.hid (And.intro hlr (And.intro hx (And.intro hk hba)))
      have C34 := Lib.hid c34
      have C83 := Lib.hid hwr
      clear hlr hx hk hba c34 hwr hd hn1 q1 q2 q3 hxm
      by_cases hck : c = k + 1
      · subst hck
        go_wp2_with (first | (go_at_call 34; refine C34.out.mono ?_; rintro e w' ⟨rfl, rfl⟩) | (go_at_call 83; refine C83.out.mono ?_; rintro e w2 ⟨rfl, hw2⟩; have HW := Lib.hid hw2; clear hw2))
        obtain ⟨g1, g2, g3, g4⟩ := HX.out
        exact ⟨⟨j + 1, _, _, _, rfl, hjl, Lib.hid (loop24_next HR.out g1 HB.out.2.2 bL hbase g2 g3 g4 HW.out (by omega) (by omega) (fun h => by omega))⟩, hn0⟩
      · go_wp2_with (first | (go_at_call 34; refine C34.out.mono ?_; rintro e w' ⟨rfl, rfl⟩) | (go_at_call 83; refine C83.out.mono ?_; rintro e w2 ⟨rfl, hw2⟩; have HW := Lib.hid hw2; clear hw2))
        obtain ⟨g1, g2, g3, g4⟩ := HX.out
        refine ⟨⟨j + 1, _, _, _, rfl, hjl, Lib.hid (loop24_next HR.out g1 HB.out.2.2 bL hbase g2 g3 g4 HW.out rfl rfl (fun _ => rfl))⟩, ?_⟩
        show n - (k + 1) < n
        omega
end Go.Proofs.YtiboiagimcgjkaaDoor
