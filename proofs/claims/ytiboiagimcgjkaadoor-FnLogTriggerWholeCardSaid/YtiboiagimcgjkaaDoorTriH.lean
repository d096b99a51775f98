/- A writer that holds lines back: the first line that is held back; a line in every state. -/
import Derived.Test.YtiboiagimcgjkaaDoorTriG
namespace Go.Proofs.YtiboiagimcgjkaaDoor
open Go.RowKit

set_option maxRecDepth 100000 in
theorem new_buffer (p : Option Addr) (n c : Nat) (w : World) :
    Calls Tryd.prog 26 #[.slice p n c] w fun e w' => e = .returned (.pointer (some ⟨w.heap.size, 0, none⟩)) ∧ w' = w.alloc (.cells #[.slice p n c, .int .i64 0, .int .i8 0] 86) := by
  go_enter Tryd.func26, Tryd.ntmps26
  go_wp2_with fail
  go_ret
  exact ⟨rfl, rfl⟩

set_option maxRecDepth 100000 in
set_option maxHeartbeats 4000000 in
theorem level_first (base TW L pb k cap : Nat) (cond trig lv : Int) (tx : List UInt8) (O : List (List UInt8)) (ob : Option Nat) (w : World)
    (htw : Whole w TW 66 #[.iface 40 (.pointer (some ⟨L, 0, none⟩)), .int .i8 cond, .int .i8 trig, .pointer none, .bool false]) (hlin : LinesAt w base L O ob) (bT : base ≤ TW) (bL : base ≤ L)
    (hlt : lv < trig) (hc : lv ≤ cond) (hP : BA w pb 0 tx) (hpt : Typed w pb 5) (hk : tx.length = k) (hk1 : k ≤ 1000) (hbase : base ≤ w.heap.size) :
    Calls Tryd.prog 21 #[.pointer (some ⟨TW, 0, none⟩), .int .i8 lv, .slice (some ⟨pb, 0, none⟩) k cap] w fun e w' => (∃ r : Int, e = .returned (.tuple #[.int .i64 r, .nilIface])) ∧ (∃ ob', TrigAt w' base TW L cond trig ⟨false, [] ++ [(lv, tx)], O⟩ ob') ∧ Below base w w' := by
  obtain ⟨i0, hi0, hz0, hz1, hz2⟩ := info_parts Tryd.info5
  obtain ⟨wm, hmk, hom, hgm⟩ := run_makeSlice_owned w base 59 5 i0 (.int .u8 0) 1 Tryd.underlying59 hi0 hz0 hz1 .i64 .i64 1024 (by omega) (by omega) (by unfold maxLen; omega) hbase
  have hmk : Sem.run Tryd.prog (Instr.makeSlice 59 (Value.int IntKind.i64 0) (Value.int IntKind.i64 1024)) w = _ := hmk
  have km : Keeps (fun _ => False) w wm := Keeps.of_grown hgm (fun k hk => by cases hk)
  have t1 : w.cell? ⟨TW, 1, none⟩ = some (.int .i8 cond) := htw.cell 1
  have t2 : w.cell? ⟨TW, 2, none⟩ = some (.int .i8 trig) := htw.cell 2
  have t3 : w.cell? ⟨TW, 3, none⟩ = some (.pointer none) := htw.cell 3
  have t4 : w.cell? ⟨TW, 4, none⟩ = some (.bool false) := htw.cell 4
  have twm := htw.keep km id
  have m3 : wm.cell? ⟨TW, 3, none⟩ = some (.pointer none) := twm.cell 3
  have mf : wm.frozen? ⟨TW, 3, none⟩ = false := twm.frozen 3
  have c26 := new_buffer (some ⟨w.heap.size, 0, none⟩) 0 1024 wm
  have HH := Lib.hid (And.intro htw (And.intro hlin (And.intro hP (And.intro hpt (And.intro hk (And.intro km (And.intro hom twm)))))))
  have C26 := Lib.hid c26
  have htl := twm.lt
  clear htw hlin hP hpt hk km hom twm hgm c26
  go_enter Tryd.func21, Tryd.ntmps21
  go_wp2_with (first | (go_at_call 26; refine C26.out.mono ?_; rintro e w1 ⟨rfl, rfl⟩))
  obtain ⟨W1, hW1⟩ : ∃ W1, W1 = (wm.setCell ⟨TW, 3, none⟩ (.pointer (some ⟨wm.heap.size, 0, none⟩))).alloc (.cells #[.slice (some ⟨w.heap.size, 0, none⟩) 0 1024, .int .i64 0, .int .i8 0] 86) := ⟨_, rfl⟩
  rw [← hW1]
  have hs1 : (wm.setCell ⟨TW, 3, none⟩ (.pointer (some ⟨wm.heap.size, 0, none⟩))).heap.size = wm.heap.size := by simp [World.setCell]
  have ks : Keeps (fun g => g = TW) wm (wm.setCell ⟨TW, 3, none⟩ (.pointer (some ⟨wm.heap.size, 0, none⟩))) := (Keeps.refl (fun g => g = TW) wm).set (p := ⟨TW, 3, none⟩) (.inl rfl) _
  have k1 : Keeps (fun g => g = TW) w W1 := by
    rw [hW1]
    exact ((HH.out.2.2.2.2.2.1.mono fun _ h => h.elim).trans ks).alloc _
  have tw1 : Whole W1 TW 66 #[.iface 40 (.pointer (some ⟨L, 0, none⟩)), .int .i8 cond, .int .i8 trig, .pointer (some ⟨wm.heap.size, 0, none⟩), .bool false] := by
    rw [hW1]
    exact (HH.out.2.2.2.2.2.2.2.set 3 _).alloc _
  have lin1 : LinesAt W1 base L O ob := HH.out.2.1.keep k1 (fun e => HH.out.2.1.typed.ne HH.out.1.typed (by decide) e) (fun g hg e => (HH.out.2.1.row hg).1.ne HH.out.1.typed (by decide) e)
  have hrow : ∃ cur, Whole wm w.heap.size 5 cur ∧ cur.size = 1024 := by
    rcases HH.out.2.2.2.2.2.2.1.2 with ⟨h0, _⟩ | ⟨g, cp, cur, he, _, hgg, _, _, hsz, _⟩
    · cases h0
    · injection he with e1 _ e3
      injection e1 with e1
      injection e1 with e1
      subst e1 e3
      exact ⟨cur, hgg, by omega⟩
  obtain ⟨cur, hr, hcs⟩ := hrow
  have hlt1 : w.heap.size < wm.heap.size := hr.lt
  have hbr : BufRow W1 base wm.heap.size w.heap.size 0 1024 cur := by
    refine ⟨Nat.le_trans hbase HH.out.2.2.2.2.2.1.size, hbase, by omega, ⟨0, ?_⟩, ?_, hcs, by omega⟩
    · have h := Whole.new (wm.setCell ⟨TW, 3, none⟩ (.pointer (some ⟨wm.heap.size, 0, none⟩))) 86 #[.slice (some ⟨w.heap.size, 0, none⟩) 0 1024, .int .i64 0, .int .i8 0]
      rw [hs1] at h
      rw [hW1]
      exact h
    · rw [hW1]
      exact (hr.far (p := ⟨TW, 3, none⟩) (by have := HH.out.1.lt; show w.heap.size ≠ TW; omega) _).alloc _
  have hs : base ≤ W1.heap.size := Nat.le_trans hbase k1.size
  have hba1 := HH.out.2.2.1.keep k1 (HH.out.2.2.2.1.ne HH.out.1.typed (by decide))
  have hpt1 := HH.out.2.2.2.1.keep k1 (HH.out.2.2.2.1.ne HH.out.1.typed (by decide))
  have hpg : pb ≠ w.heap.size := by have := HH.out.2.2.2.1.lt; omega
  have hbt : Typed W1 wm.heap.size 86 := by obtain ⟨lr, hb⟩ := hbr.blk; exact hb.typed
  have c27 := write_byte base wm.heap.size w.heap.size 0 1024 cur (Lib.byteCells (enc [])) (IntKind.u8.wrap lv) W1 hbr rfl (by unfold maxLen; omega) (by omega) (.inr (by omega)) hs (Lib.byteCells_one _)
  rw [IntKind.wrap_u8] at c27
  refine c27.mono ?_
  rintro e w2 ⟨rfl, h2⟩
  have h2' := h2
  obtain ⟨g2, cap2, cur2, r2, e2, m2, k2⟩ := h2'
  have hne : ∀ {i t}, Typed W1 i t → t ≠ 86 → i ≠ w.heap.size → ¬ (i = wm.heap.size ∨ i = w.heap.size) := fun {i t} ht h1 hg hs => by
    rcases hs with hs | hs
    · exact ht.ne hbt h1 hs
    · exact hg hs
  have tw2 := tw1.keep k2 (hne tw1.typed (by decide) (tw1.typed.ne hbr.row.typed (by decide)))
  have u3 : w2.cell? ⟨TW, 3, none⟩ = some (.pointer (some ⟨wm.heap.size, 0, none⟩)) := tw2.cell 3
  have hbuf2 := r2.isBuffer m2
  rw [e2] at hbuf2
  have hba2 := hba1.keep k2 (hne hpt1 (by decide) hpg)
  have c28 := Tryd.Buffer_Write_any base wm.heap.size _ (Lib.byteCells tx) ⟨pb, 0, none⟩ k cap w2 hbuf2 (Nat.le_trans hs k2.size) (fun v hv => by
      rcases List.mem_append.1 hv with hv | hv
      · exact Lib.byteCells_one _ v hv
      · rw [List.mem_singleton] at hv
        rw [hv]
        rfl) (by rw [Lib.byteCells_length]; exact HH.out.2.2.2.2.1) (hpt1.ne hbt (by decide)) (fun j v hj => by
      unfold Lib.byteCells at hj
      rw [List.getElem?_map] at hj
      obtain ⟨y, hy, rfl⟩ := Option.map_eq_some_iff.1 hj
      obtain ⟨hlt, rfl⟩ := List.getElem?_eq_some_iff.1 hy
      rw [Lib.addr_add]
      exact hba2.2 j hlt) (Lib.byteCells_one _) (by
      rw [List.length_append, List.length_singleton]
      show 0 + 1 + k ≤ _
      omega)
  have C28 := Lib.hid c28
  have H2 := Lib.hid (And.intro h2 (And.intro hbr (And.intro tw1 (And.intro lin1 (And.intro hs k1)))))
  clear c28 c27 h2 hbuf2 hba2 tw2 r2 e2 m2 k2 hne t1 t2 t3 t4 hW1 hs1 ks k1 tw1 lin1 hr hcs hbr hba1 hpt1 hpg hbt hmk m3 mf
  go_wp2_with fail
  refine C28.out.mono ?_
  rintro e w3 ⟨rfl, h3, hb3, ho3⟩
  have H3 := Lib.hid (And.intro h3 (And.intro hb3 ho3))
  clear h3 hb3 ho3
  go_wp2_with fail
  go_returns
  obtain ⟨r1, r2⟩ := hold_end (B := []) H2.out.2.1 H2.out.2.2.1 H2.out.2.2.2.1 bT bL H2.out.2.2.2.2.1 (by rw [IntKind.wrap_u8]; exact H2.out.1) (by rw [IntKind.wrap_u8]; exact H3.out.1) H3.out.2.1 H3.out.2.2
  exact ⟨⟨_, rfl⟩, r1, (H2.out.2.2.2.2.2.below hbase (fun g e => by rw [e]; exact bT)).trans r2⟩

theorem enc_pos {B : List (Int × List UInt8)} (h : B ≠ []) : 0 < (enc B).length := by
  cases B with
  | nil => exact absurd rfl h
  | cons x B => rw [enc_cons, List.length_append, List.length_cons]; omega
/-- A line in every state; the row of its bytes is younger than the writer's. -/
theorem write_level (base TW L pb k cap : Nat) (cond trig lv : Int) (tx : List UInt8) (s : TS) (ob : Option Nat) (w0 w : World) (h : TrigAt w0 base TW L cond trig s ob) (hk0 : Keeps (fun _ => False) w0 w) (hpb : w0.heap.size ≤ pb) (hB : s.T = false → Lines s.B) (hlen : s.B.length ≤ 100) (hP : BA w pb 0 tx) (hPt : Typed w pb 5) (hk : tx.length = k) (hk1 : k ≤ 1000) (hO : s.O.length ≤ 100) (hbase : base ≤ w0.heap.size) :
    Calls Tryd.prog 21 #[.pointer (some ⟨TW, 0, none⟩), .int .i8 lv, .slice (some ⟨pb, 0, none⟩) k cap] w fun e w' => (∃ r : Int, e = .returned (.tuple #[.int .i64 r, .nilIface])) ∧ (∃ ob', TrigAt w' base TW L cond trig (tline cond trig lv tx s) ob') ∧ Below base w w' := by
  have hb : base ≤ w.heap.size := Nat.le_trans hbase hk0.size
  have h1 := h.later hk0
  cases hT : s.T with
  | true =>
    refine (level_on base TW L pb k cap cond trig lv tx s ob w h1 hT hP hk (by omega) hb).mono ?_
    rintro e w' ⟨he, hend⟩
    exact ⟨he, hend.1, hend.2.2⟩
  | false =>
    rcases Int.lt_or_le lv trig with hlt | hle
    · rcases Int.lt_or_le cond lv with hc | hc
      · refine (level_off base TW L pb k cap cond trig lv tx s ob w h1 hT hlt hc hP hk (by omega) hb).mono ?_
        rintro e w' ⟨he, hend⟩
        exact ⟨he, hend.1, hend.2.2⟩
      · rw [tline_hold cond trig lv tx hT hlt hc]
        obtain ⟨T, B, O⟩ := s
        have hT : T = false := hT
        subst hT
        obtain ⟨bp, htw, hbuf⟩ := h1.tw
        obtain ⟨bp0, htw0, hbuf0⟩ := h.tw
        rcases hbuf rfl with ⟨hb0, rfl⟩ | ⟨hne, b, rfl, hbf⟩
        · have hb0 : B = [] := hb0
          subst hb0
          exact level_first base TW L pb k cap cond trig lv tx O ob w htw h1.lin h.bT h.bL hlt hc hP hPt hk hk1 hb
        · have e0 : bp0 = some ⟨b, 0, none⟩ := by
            have e1 := htw0.cell 3
            have e2 : w.cell? ⟨TW, 3, none⟩ = w0.cell? ⟨TW, 3, none⟩ := hk0.cell (p := ⟨TW, 3, none⟩) htw0.lt id
            have e3 := htw.cell 3
            rw [e2, e1] at e3
            injection e3 with e3
            injection e3
          subst e0
          rcases hbuf0 rfl with ⟨hb0, _⟩ | ⟨_, b', e', hbf0⟩
          · exact absurd hb0 hne
          · injection e' with e'
            injection e' with e'
            subst e'
            obtain ⟨hB1, lr, hcs⟩ := hbf.cases
            obtain ⟨hB0, lr0, hcs0⟩ := hbf0.cases
            have hlpos : 0 < (Lib.byteCells (enc B)).length := by rw [Lib.byteCells_length]; exact enc_pos hne
            rcases hcs0 with ⟨h0, _⟩ | ⟨g, rc, cur, hbk, hBg, hgg, hle, hcm, hsz, htk, hgb⟩
            · have h0 : Lib.byteCells (enc B) = [] := h0
              rw [h0] at hlpos
              exact absurd hlpos (by simp)
            · have hgl : g < w0.heap.size := (Array.getElem?_eq_some_iff.1 hgg).1
              have hW : Whole w0 b 86 #[.slice (some ⟨g, 0, none⟩) (Lib.byteCells (enc B)).length rc, .int .i64 0, .int .i8 lr0] := hbk
              have hG : Whole w0 g 5 cur := hgg
              have hl := enc_len B (fun x hx => ((hB rfl) x hx).2.2)
              have hlen' : B.length ≤ 100 := hlen
              refine level_hold base TW L pb k cap b g (Lib.byteCells (enc B)).length rc cond trig lv tx B O ob cur w htw h1.lin h.bT h.bL ⟨hB0, hBg, hgb, ⟨lr0, hW.keep hk0 id⟩, hG.keep hk0 id, hsz, hle⟩ htk hcm hlpos ?_ hlt hc hP hPt (by omega) hk hk1 hb
              rw [Lib.byteCells_length]
              omega
    · refine (level_flush base TW L pb k cap cond trig lv tx s ob w h1 hT hle (hB hT) hlen hP hPt hk hO hb).mono ?_
      rintro e w' ⟨he, hend⟩
      exact ⟨he, hend.1, hend.2.2⟩
end Go.Proofs.YtiboiagimcgjkaaDoor
