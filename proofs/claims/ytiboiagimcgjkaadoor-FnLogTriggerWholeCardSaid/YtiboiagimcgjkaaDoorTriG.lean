/- A writer that holds lines back: a line that is held back. -/
import Derived.Test.YtiboiagimcgjkaaDoorTriF
namespace Go.Proofs.YtiboiagimcgjkaaDoor
open Go.RowKit

theorem Tryd.info5 : (Tryd.prog.info? 5).map (fun i => (i.zero, i.size, i.bytes)) = some (some (.int .u8 0), 1, 1) := by kernel_rfl
theorem whole_others {w w' : World} {b g : Nat} {t : TypeId} {cs : Array Value} (h : Whole w g t cs) (k : Lib.OthersKept 5 (some b) w w') (hb : g ≠ b) (ht : t ≠ 5) : Whole w' g t cs :=
  k g _ h (fun e => hb (by injection e)) (fun c fz e => ht (by injection e))
theorem lines_others {w w' : World} {b base L : Nat} {rows : List (List UInt8)} {ob : Option Nat} (h : LinesAt w base L rows ob) (k : Lib.OthersKept 5 (some b) w w') (hb : Typed w b 86) : LinesAt w' base L rows ob := by
  have hL := h.typed
  have hrow := fun {g} (hg : ob = some g) => (h.row hg).1
  obtain ⟨v, h1, h2, h3, h4⟩ := h
  refine ⟨v, whole_others h1 k (hL.ne hb (by decide)) (by decide), ⟨h2.1, ?_⟩, h3, h4⟩
  rcases h2.2 with h0 | ⟨g, cap, cur, rfl, hgb, hgg, rest⟩
  · exact .inl h0
  · refine .inr ⟨g, cap, cur, rfl, hgb, ?_, rest⟩
    have : Typed w g 9 := ⟨_, _, hgg⟩
    exact k g _ hgg (fun e => this.ne hb (by decide) (by injection e)) (fun c fz e => by injection e with _ e; cases e)
theorem byte_of_lvb (lv : Int) (B : List (Int × List UInt8)) (tx : List UInt8) : Lib.byteCells (enc (B ++ [(lv, tx)])) = Lib.byteCells (enc B) ++ [.int .u8 (IntKind.u8.wrap lv)] ++ Lib.byteCells tx := by
  rw [enc_snoc, Lib.byteCells_append, ← lvb_val lv]
  simp [Lib.byteCells]
/-- The line is in the buffer. -/
theorem hold_end {w1 w2 w3 : World} {base TW L b g l cap : Nat} {cond trig lv : Int} {B : List (Int × List UInt8)} {O : List (List UInt8)} {ob : Option Nat} {cur : Array Value} {tx : List UInt8} (hbr : BufRow w1 base b g l cap cur)
    (htw : Whole w1 TW 66 #[.iface 40 (.pointer (some ⟨L, 0, none⟩)), .int .i8 cond, .int .i8 trig, .pointer (some ⟨b, 0, none⟩), .bool false]) (hlin : LinesAt w1 base L O ob) (bT : base ≤ TW) (bL : base ≤ L) (hbase : base ≤ w1.heap.size)
    (h2 : ByteEnd w1 base b g l (Lib.byteCells (enc B)) (.int .u8 (IntKind.u8.wrap lv)) w2) (h3 : Lib.IsBuffer 86 5 base b (Lib.byteCells (enc B) ++ [.int .u8 (IntKind.u8.wrap lv)] ++ Lib.byteCells tx) w3) (hb3 : Below base w2 w3) (ho3 : Lib.OthersKept 5 (some b) w2 w3) :
    (∃ ob', TrigAt w3 base TW L cond trig ⟨false, B ++ [(lv, tx)], O⟩ ob') ∧ Below base w1 w3 := by
  obtain ⟨g', cap', cur', r1, _, _, k2⟩ := h2
  have hbt : Typed w1 b 86 := by obtain ⟨lr, hb⟩ := hbr.blk; exact hb.typed
  have hbt2 : Typed w2 b 86 := by obtain ⟨lr, hb⟩ := r1.blk; exact hb.typed
  have hne : ∀ {i t}, Typed w1 i t → t ≠ 86 → t ≠ 5 → ¬ (i = b ∨ i = g) := fun {i t} ht h1 h2 hs => by
    rcases hs with hs | hs
    · exact ht.ne hbt h1 hs
    · exact ht.ne hbr.row.typed h2 hs
  have tw2 := htw.keep k2 (hne htw.typed (by decide) (by decide))
  have lin2 := hlin.keep k2 (hne hlin.typed (by decide) (by decide)) (fun g hg => hne (hlin.row hg).1 (by decide) (by decide))
  refine ⟨⟨ob, ⟨_, whole_others tw2 ho3 (tw2.typed.ne hbt2 (by decide)) (by decide), fun _ => .inr ⟨by simp, b, rfl, ?_⟩⟩, lines_others lin2 ho3 hbt2, bT, bL⟩, (k2.below hbase (fun i hs => ?_)).trans hb3⟩
  · rw [byte_of_lvb]
    exact h3
  · rcases hs with hs | hs
    · rw [hs]; exact hbr.hB
    · rw [hs]; exact hbr.hBg

set_option maxRecDepth 100000 in
set_option maxHeartbeats 4000000 in
theorem level_hold (base TW L pb k cap b g l rc : Nat) (cond trig lv : Int) (tx : List UInt8) (B : List (Int × List UInt8)) (O : List (List UInt8)) (ob : Option Nat) (cur : Array Value) (w : World)
    (htw : Whole w TW 66 #[.iface 40 (.pointer (some ⟨L, 0, none⟩)), .int .i8 cond, .int .i8 trig, .pointer (some ⟨b, 0, none⟩), .bool false]) (hlin : LinesAt w base L O ob) (bT : base ≤ TW) (bL : base ≤ L)
    (hbr : BufRow w base b g l rc cur) (ht : cur.toList.take l = Lib.byteCells (enc B)) (hcm : rc ≤ maxLen) (hl0 : 0 < l) (hl : l ≤ 100000) (hlt : lv < trig) (hc : lv ≤ cond) (hP : BA w pb 0 tx) (hpt : Typed w pb 5) (hpg : pb ≠ g) (hk : tx.length = k) (hk1 : k ≤ 1000) (hbase : base ≤ w.heap.size) :
    Calls Tryd.prog 21 #[.pointer (some ⟨TW, 0, none⟩), .int .i8 lv, .slice (some ⟨pb, 0, none⟩) k cap] w fun e w' => (∃ r : Int, e = .returned (.tuple #[.int .i64 r, .nilIface])) ∧ (∃ ob', TrigAt w' base TW L cond trig ⟨false, B ++ [(lv, tx)], O⟩ ob') ∧ Below base w w' := by
  have t1 : w.cell? ⟨TW, 1, none⟩ = some (.int .i8 cond) := htw.cell 1
  have t2 : w.cell? ⟨TW, 2, none⟩ = some (.int .i8 trig) := htw.cell 2
  have t3 : w.cell? ⟨TW, 3, none⟩ = some (.pointer (some ⟨b, 0, none⟩)) := htw.cell 3
  have t4 : w.cell? ⟨TW, 4, none⟩ = some (.bool false) := htw.cell 4
  have hbt : Typed w b 86 := by obtain ⟨lr, hb⟩ := hbr.blk; exact hb.typed
  have c27 := write_byte base b g l rc cur (Lib.byteCells (enc B)) (IntKind.u8.wrap lv) w hbr ht hcm (by omega) (.inl hl0) hbase (Lib.byteCells_one _)
  have hlen : (Lib.byteCells (enc B)).length ≤ 100000 := by
    rw [← ht, List.length_take]
    omega
  have HH := Lib.hid (And.intro htw (And.intro hlin (And.intro hbr (And.intro hP (And.intro hpt (And.intro hpg (And.intro hk (And.intro hbt hlen))))))))
  rw [IntKind.wrap_u8] at c27
  have C27 := Lib.hid c27
  clear htw hlin hbr ht hP hpt hpg hk hbt c27 hlen
  go_enter Tryd.func21, Tryd.ntmps21
  go_wp2_with fail
  refine C27.out.mono ?_
  rintro e w2 ⟨rfl, h2⟩
  have h2' := h2
  obtain ⟨g2, cap2, cur2, r2, e2, m2, k2⟩ := h2'
  have hne : ∀ {i t}, Typed w i t → t ≠ 86 → i ≠ g → ¬ (i = b ∨ i = g) := fun {i t} ht h1 hg hs => by
    rcases hs with hs | hs
    · exact ht.ne HH.out.2.2.2.2.2.2.2.1 h1 hs
    · exact hg hs
  have tw2 := HH.out.1.keep k2 (hne HH.out.1.typed (by decide) (HH.out.1.typed.ne HH.out.2.2.1.row.typed (by decide)))
  have u3 : w2.cell? ⟨TW, 3, none⟩ = some (.pointer (some ⟨b, 0, none⟩)) := tw2.cell 3
  have hbuf2 := r2.isBuffer m2
  rw [e2] at hbuf2
  have hba2 := HH.out.2.2.2.1.keep k2 (hne HH.out.2.2.2.2.1 (by decide) HH.out.2.2.2.2.2.1)
  have c28 := Tryd.Buffer_Write_any base b _ (Lib.byteCells tx) ⟨pb, 0, none⟩ k cap w2 hbuf2 (Nat.le_trans hbase k2.size) (fun v hv => by
      rcases List.mem_append.1 hv with hv | hv
      · exact Lib.byteCells_one _ v hv
      · rw [List.mem_singleton] at hv
        rw [hv]
        rfl) (by rw [Lib.byteCells_length]; exact HH.out.2.2.2.2.2.2.1) (HH.out.2.2.2.2.1.ne HH.out.2.2.2.2.2.2.2.1 (by decide)) (fun j v hj => by
      unfold Lib.byteCells at hj
      rw [List.getElem?_map] at hj
      obtain ⟨y, hy, rfl⟩ := Option.map_eq_some_iff.1 hj
      obtain ⟨hlt, rfl⟩ := List.getElem?_eq_some_iff.1 hy
      rw [Lib.addr_add]
      exact hba2.2 j hlt) (Lib.byteCells_one _) (by
      have := HH.out.2.2.2.2.2.2.2.2
      rw [List.length_append, List.length_singleton]
      omega)
  have C28 := Lib.hid c28
  have H2 := Lib.hid h2
  clear c28 h2 hbuf2 hba2 tw2 r2 e2 m2 k2 hne t1 t2 t3 t4
  go_wp2_with fail
  refine C28.out.mono ?_
  rintro e w3 ⟨rfl, h3, hb3, ho3⟩
  have H3 := Lib.hid (And.intro h3 (And.intro hb3 ho3))
  clear h3 hb3 ho3
  go_wp2_with fail
  go_returns
  refine ⟨⟨_, rfl⟩, hold_end HH.out.2.2.1 HH.out.1 HH.out.2.1 bT bL hbase (by rw [IntKind.wrap_u8]; exact H2.out) (by rw [IntKind.wrap_u8]; exact H3.out.1) H3.out.2.1 H3.out.2.2⟩
end Go.Proofs.YtiboiagimcgjkaaDoor
