/- A new event. -/
import Derived.Test.YtpenbgiobeebiaaGreatDoorPasD
namespace Go.Proofs.YtpenbgiobeebiaaGreatDoor
open Go.RowKit

/-- A new buffer of 500 bytes. -/
theorem make_buf : ∃ cs : Array Value, cs.size = 500 ∧ ∀ w : World, Sem.run Tryz.prog (Instr.makeSlice 45 (Value.int IntKind.i64 0) (Value.int IntKind.i64 500)) w = .ok (.slice (some ⟨w.heap.size, 0, none⟩) 0 500) (w.alloc (.cells cs 5)) := by
  obtain ⟨i, hi, hs⟩ := info5
  have h2 : Tryz.prog.info? 5 = some i ∧ i.zero = some (.int .u8 0) ∧ i.bytes = 1 := by
    refine ⟨hi, ?_⟩
    have hz : (Tryz.prog.info? 5).map (fun i => (i.zero, i.bytes)) = some (some (.int .u8 0), 1) := by kernel_rfl
    rw [hi] at hz
    simpa using hz
  refine ⟨madeCells (Value.int .u8 0).cells ((500 : Int).toNat * i.size), by rw [size_madeCells, hs]; rfl, fun w => ?_⟩
  have := run_makeSlice (P := Tryz.prog) w 45 5 i (.int .u8 0) Tryz.underlying45 hi h2.2.1 .i64 .i64 0 500 (by omega) (by omega) (by rw [hs]; decide) (by rw [h2.2.2]; decide) (by decide)
  exact this

set_option maxRecDepth 100000 in
set_option maxHeartbeats 4000000 in
theorem event_walk (base L C : Nat) (lv gl : Int) (w : World) (hC : ConfAt w C gl) (hL : LinesAt w base L [] none) (bL : base ≤ L) (hbase : base ≤ w.heap.size) :
    Calls Tryz.prog 25 #[.iface 64 (adV L), .int .i8 lv, .bool false, .pointer (some ⟨C, 0, none⟩), .slice none 0 0] w fun e w' => ∃ E g, e = .returned (.pointer (some ⟨E, 0, none⟩)) ∧ Sys w' base E g 1 lv C L gl [123] ∧ Below w.heap.size w w' := by
  obtain ⟨cs, hcs, hmk0⟩ := make_buf
  have hmk := hmk0 w
  clear hmk0
  have HC := Lib.hid hC
  have HL := Lib.hid hL
  have hCl := hC.typed.lt
  have hLl := hL.typed.lt
  clear hC hL
  go_enter Tryz.func25, Tryz.ntmps25
  go_upto_region 5 with fail
  obtain ⟨W, hW⟩ : ∃ W, W = ((w.alloc (Obj.cells cs 5)).alloc (Obj.cells #[Value.slice (some ⟨w.heap.size, 0, none⟩) 0 500, Value.nilIface, Value.int IntKind.i8 0, Value.bool false, Value.slice none 0 0, Value.int IntKind.i64 0, Value.pointer (some ⟨C, 0, none⟩)] 77)) := ⟨_, rfl⟩
  rw [← hW]
  have kW : Keeps (fun _ => False) w W := by
    rw [hW]
    exact ((Keeps.refl _ w).alloc _).alloc _
  have wE : Whole W (w.heap.size + 1) 77 #[Value.slice (some ⟨w.heap.size, 0, none⟩) 0 500, Value.nilIface, Value.int IntKind.i8 0, Value.bool false, Value.slice none 0 0, Value.int IntKind.i64 0, Value.pointer (some ⟨C, 0, none⟩)] := by
    rw [hW]
    have := Whole.new (w.alloc (Obj.cells cs 5)) 77 #[Value.slice (some ⟨w.heap.size, 0, none⟩) 0 500, Value.nilIface, Value.int IntKind.i8 0, Value.bool false, Value.slice none 0 0, Value.int IntKind.i64 0, Value.pointer (some ⟨C, 0, none⟩)]
    simpa using this
  have hB : Buf W w.heap.size [] := by
    rw [hW]
    exact ⟨cs, (Whole.new w 5 cs).alloc _, hcs, by simp, fun i hi => by simp at hi⟩
  have hT : Typed W w.heap.size 5 := by
    rw [hW]
    exact ((Whole.new w 5 cs).alloc _).typed
  obtain ⟨E, hE⟩ : ∃ E, E = w.heap.size + 1 := ⟨_, rfl⟩
  obtain ⟨g, hg⟩ : ∃ g, g = w.heap.size := ⟨_, rfl⟩
  rw [← hE, ← hg] at wE ⊢
  rw [← hg] at hB hT
  have cf := HC.out.keep kW id
  have li := HL.out.later kW
  have e0 : W.cell? ⟨E, 0, none⟩ = some (.slice (some ⟨g, 0, none⟩) 0 500) := wE.cell 0
  have e6 : W.cell? ⟨E, 6, none⟩ = some (.pointer (some ⟨C, 0, none⟩)) := wE.cell 6
  have c15 := cf.enc
  have fE := wE.frozen 0
  have hgE : g ≠ E := hT.ne wE.typed (by decide)
  have hgC : g ≠ C := hT.ne cf.typed (by decide)
  have hgL : g ≠ L := hT.ne li.typed (by decide)
  have hEC : E ≠ C := wE.typed.ne cf.typed (by decide)
  have hEL : E ≠ L := wE.typed.ne li.typed (by decide)
  have hEl := wE.lt
  have hCl1 := cf.typed.lt
  have C86 := Lib.hid (begin_any g 0 [] W.drew hB rfl (by omega))
  have HW := Lib.hid (And.intro wE (And.intro hT (And.intro cf (And.intro li kW))))
  have HX := Lib.hid (And.intro hE hg)
  clear wE hB hT cf li kW hmk hW HC HL hE hg
  refine wp_region_held_drew (S := (fun W => W.cell? ⟨E, 6, none⟩ = some (.pointer (some ⟨C, 0, none⟩)) ∧ W.cell? ⟨C, 15, none⟩ = some (.iface 58 (.agg #[])))) (by kernel_rfl) ?_ (fun hHeld => ?_)
  · exact ⟨e6, c15⟩
  refine wpAnyH_take (i := 0) (v := ?_) rfl (by kernel_rfl) (by kernel_rfl) (by kernel_rfl) (fun _ _ _ h => h) (Or.inl ⟨by rfl, ?_⟩) (by assumption) ?_
  rotate_left
  focus (intro w hSw; (try dsimp only at hSw); go_simp; (try with_reducible rfl); done)
  try simp only [Act.put]
  refine wpAnyH_take (i := 1) (v := ?_) rfl (by kernel_rfl) (by kernel_rfl) (by kernel_rfl) (fun _ _ _ h => h) (Or.inl ⟨by rfl, ?_⟩) (by assumption) ?_
  rotate_left
  focus (intro w hSw; (try dsimp only at hSw); go_simp; (try with_reducible rfl); done)
  try simp only [Act.put]
  refine wpAnyH_take (i := 2) (v := ?_) rfl (by kernel_rfl) (by kernel_rfl) (by kernel_rfl) (fun _ _ _ h => h) (Or.inl ⟨by rfl, ?_⟩) (by assumption) ?_
  rotate_left
  focus (intro w hSw; (try dsimp only at hSw); go_simp; (try with_reducible rfl); done)
  try simp only [Act.put]
  refine wpAnyH_take (i := 3) (v := ?_) rfl (by kernel_rfl) (by kernel_rfl) (by kernel_rfl) (fun _ _ _ h => h) (Or.inl ⟨by rfl, ?_⟩) (by assumption) ?_
  rotate_left
  focus (intro w hSw; (try dsimp only at hSw); go_simp; (try with_reducible rfl); done)
  try simp only [Act.put]
  refine wpAnyH_take (i := 4) (v := ?_) rfl (by kernel_rfl) (by kernel_rfl) (by kernel_rfl) (fun _ _ _ h => h) (Or.inl ⟨by rfl, ?_⟩) (by assumption) ?_
  rotate_left
  focus (intro w hSw; (try dsimp only at hSw); go_simp; (try with_reducible rfl); done)
  try simp only [Act.put]
  refine wpAnyH_take (i := 5) (v := ?_) rfl (by kernel_rfl) (by kernel_rfl) (by kernel_rfl) (fun _ _ _ h => h) (Or.inl ⟨by rfl, ?_⟩) (by assumption) ?_
  rotate_left
  focus (intro w hSw; (try dsimp only at hSw); go_simp; (try with_reducible rfl); done)
  try simp only [Act.put]
  refine wpAnyH_take (i := 6) (v := ?_) rfl (by kernel_rfl) (by kernel_rfl) (by kernel_rfl) (fun _ _ _ h => h) (Or.inl ⟨by rfl, ?_⟩) (by assumption) ?_
  rotate_left
  focus (intro w hSw; (try dsimp only at hSw); go_simp; (try with_reducible rfl); done)
  try simp only [Act.put]
  refine wpAnyH_take (i := 7) (v := ?_) rfl (by kernel_rfl) (by kernel_rfl) (by kernel_rfl) (fun _ _ _ h => h) (Or.inl ⟨by rfl, ?_⟩) (by assumption) ?_
  rotate_left
  focus (intro w hSw; (try dsimp only at hSw); go_simp; (try with_reducible rfl); done)
  try simp only [Act.put]
  refine wpAnyH_take (i := 8) (v := ?_) rfl (by kernel_rfl) (by kernel_rfl) (by kernel_rfl) (fun _ _ _ h => h) (Or.inl ⟨by rfl, ?_⟩) (by assumption) ?_
  rotate_left
  focus (intro w hSw; (try dsimp only at hSw); go_simp; (try with_reducible rfl); done)
  try simp only [Act.put]
  refine wpAnyH_take (i := 9) (v := ?_) rfl (by kernel_rfl) (by kernel_rfl) (by kernel_rfl) (fun _ _ _ h => h) (Or.inl ⟨by rfl, ?_⟩) (by assumption) ?_
  rotate_left
  focus (intro w hSw; (try dsimp only at hSw); go_simp; (try with_reducible rfl); done)
  try simp only [Act.put]
  refine wpAnyH_take (i := 10) (v := ?_) rfl (by kernel_rfl) (by kernel_rfl) (by kernel_rfl) (fun _ _ _ h => h) (Or.inl ⟨by rfl, ?_⟩) (by assumption) ?_
  rotate_left
  focus (intro w hSw; (try dsimp only at hSw); go_simp; (try with_reducible rfl); done)
  try simp only [Act.put]
  refine wpAnyH_take (i := 12) (v := ?_) rfl (by kernel_rfl) (by kernel_rfl) (by kernel_rfl) (fun _ _ _ h => h) (Or.inl ⟨by rfl, ?_⟩) (by assumption) ?_
  rotate_left
  focus (intro w hSw; (try dsimp only at hSw); go_simp; (try with_reducible rfl); done)
  try simp only [Act.put]
  refine wpAnyH_take (i := 13) (v := ?_) rfl (by kernel_rfl) (by kernel_rfl) (by kernel_rfl) (fun _ _ _ h => h) (Or.inl ⟨by rfl, ?_⟩) (by assumption) ?_
  rotate_left
  focus (intro w hSw; (try dsimp only at hSw); go_simp; (try with_reducible rfl); done)
  try simp only [Act.put]
  refine wpAnyH_ready (rs := [11]) (by kernel_rfl) (by simp) ?_
  refine AllReadyH.cons rfl (fun K hK => ?_) AllReadyH.nil
  go_simp
  refine hK.out _ _ ?_ (fun hHeld => ?_)
  · exact ⟨e6, c15⟩
  clear hK K
  try simp only [Act.put]
  refine wpAnyH_ready (rs := [14]) (by kernel_rfl) (by simp) ?_
  refine AllReadyH.cons rfl (fun K hK => ?_) AllReadyH.nil
  (go_simp; rw [m86]; go_wp2_with ((go_at_call 86; refine C86.out.mono ?_; rintro e w1 ⟨rfl, hb1, hk1⟩; have hb1 := Lib.hid hb1; have hk1 := Lib.hid (Keeps.of_drew hk1); have e61 : w1.cell? ⟨E, 6, none⟩ = some (.pointer (some ⟨C, 0, none⟩)) := (hk1.out.cell hEl (fun e => hgE e.symm)).trans e6; have c151 : w1.cell? ⟨C, 15, none⟩ = some (.iface 58 (.agg #[])) := (hk1.out.cell hCl1 (fun e => hgC e.symm)).trans c15)))
  refine hK.out _ _ ?_ (fun hHeld => ?_)
  · exact ⟨e61, c151⟩
  clear hK K
  try simp only [Act.put]
  refine wpAnyH_take (i := 15) (v := ?_) rfl (by kernel_rfl) (by kernel_rfl) (by kernel_rfl) (fun _ _ _ h => h) (Or.inl ⟨by rfl, ?_⟩) (by assumption) ?_
  rotate_left
  focus (intro w hSw; (try dsimp only at hSw); go_simp; (try with_reducible rfl); done)
  try simp only [Act.put]
  refine wpAnyH_take (i := 16) (v := ?_) rfl (by kernel_rfl) (by kernel_rfl) (by kernel_rfl) (fun _ _ _ h => h) (Or.inl ⟨by rfl, ?_⟩) (by assumption) ?_
  rotate_left
  focus (intro w hSw; (try dsimp only at hSw); go_simp; (try with_reducible rfl); done)
  try simp only [Act.put]
  refine wpAnyH_ready (rs := [17]) (by kernel_rfl) (by simp) ?_
  refine AllReadyH.cons rfl (fun K hK => ?_) AllReadyH.nil
  (have e01 := (hk1.out.cell hEl (fun e => hgE e.symm)).trans e0; have wE1 := Lib.hid (HW.out.1.keep hk1.out (fun e => hgE e.symm)); have fE1 : w1.frozen? ⟨E, 0, none⟩ = false := wE1.out.frozen 0; have wE2 := Lib.hid (wE1.out.set 0 (.slice (some ⟨g, 0, none⟩) 1 500)); have e62 := wE2.out.cell 6; have c152 : (w1.setCell ⟨E, 0, none⟩ (.slice (some ⟨g, 0, none⟩) 1 500)).cell? ⟨C, 15, none⟩ = some (.iface 58 (.agg #[])) := (((Keeps.refl (fun k => k = E) w1).set (p := ⟨E, 0, none⟩) (.inl rfl) _).cell (Nat.lt_of_lt_of_le hCl1 hk1.out.size) (fun e => hEC e.symm)).trans c151; go_simp)
  refine hK.out _ _ ?_ (fun hHeld => ?_)
  · exact ⟨e62, c152⟩
  clear hK K
  try simp only [Act.put]
  refine wpAnyH_done (by kernel_rfl) ?_ _
  obtain ⟨X, hX⟩ : ∃ X, X = w1.setCell ⟨E, 0, none⟩ (.slice (some ⟨g, 0, none⟩) 1 500) := ⟨_, rfl⟩
  rw [← hX] at wE2 ⊢
  have hW0 := HW.out
  have kX : Keeps (fun k => k = g ∨ k = E) W X := by
    rw [hX]
    exact (hk1.out.mono fun _ h => .inl h).set (p := ⟨E, 0, none⟩) (.inl (.inr rfl)) _
  have bX : Buf X g [123] ∧ Typed X g 5 := by
    have k2 : Keeps (fun k => k = E) w1 X := by
      rw [hX]
      exact (Keeps.refl (fun k => k = E) w1).set (p := ⟨E, 0, none⟩) (.inl rfl) _
    have hb : Buf X g [123] := hb1.out.keep k2 hgE
    have hb' := hb
    obtain ⟨cs, h1, _⟩ := hb'
    exact ⟨hb, h1.typed⟩
  have BX := Lib.hid bX
  have cfX := Lib.hid (hW0.2.2.1.keep kX (by rintro (e | e); exact hgC e.symm; exact hEC e.symm))
  have liX := Lib.hid (hW0.2.2.2.1.keep kX (by rintro (e | e); exact hgL e.symm; exact hEL e.symm) (fun _ h => by cases h))
  have KX := Lib.hid kX
  have x1 : X.cell? ⟨E, 1, none⟩ = some .nilIface := wE2.out.cell 1
  have x2 : X.cell? ⟨E, 2, none⟩ = some (.int .i8 0) := wE2.out.cell 2
  have x5 : X.cell? ⟨E, 5, none⟩ = some (.int .i64 0) := wE2.out.cell 5
  have y1 := wE2.out.frozen 1
  have y2 := wE2.out.frozen 2
  have y5 := wE2.out.frozen 5
  clear hHeld hX kX bX hW0 wE1 e61 c151 e01 fE1 e62 c152 C86 e0 e6 c15 fE hb1 hk1
  go_wp2_with fail
  go_returns
  obtain ⟨Y, hY⟩ : ∃ Y, Y = ((X.setCell ⟨E, 1, none⟩ (.iface 64 (adV L))).setCell ⟨E, 2, none⟩ (.int .i8 lv)).setCell ⟨E, 5, none⟩ (.int .i64 0) := ⟨_, rfl⟩
  have kY : Keeps (fun k => k = E) X Y := by
    rw [hY]
    exact (((Keeps.refl (fun k => k = E) X).set (p := ⟨E, 1, none⟩) (.inl rfl) _).set (p := ⟨E, 2, none⟩) (.inl rfl) _).set (p := ⟨E, 5, none⟩) (.inl rfl) _
  have wY := (((wE2.out.set 1 (.iface 64 (adV L))).set 2 (.int .i8 lv)).set 5 (.int .i64 0))
  rw [← hY] at wY ⊢
  have hx := HX.out
  refine ⟨E, g, rfl, ⟨wY, cfX.out.keep kY (fun e => hEC e.symm), BX.out.1.keep kY hgE, BX.out.2.keep kY hgE, rfl, liX.out.keep kY (fun e => hEL e.symm) (fun _ h => by cases h), by omega, by omega, bL⟩, ?_⟩
  have hk := HW.out.2.2.2.2
  exact (hk.below (Nat.le_refl _) (fun _ h => h.elim)).trans ((KX.out.below hk.size (by rintro k (e | e) <;> omega)).trans (kY.below (Nat.le_trans hk.size KX.out.size) (by rintro k e; omega)))
#print axioms event_walk
end Go.Proofs.YtpenbgiobeebiaaGreatDoor
