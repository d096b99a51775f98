/- An event that is written. -/
import Derived.Test.YtpenbgiobeebiaaGreatDoorMeth
namespace Go.Proofs.YtpenbgiobeebiaaGreatDoor
open Go.RowKit

/-- Block g is a row of cells of type t. -/
def Typed (w : World) (g : Nat) (t : TypeId) : Prop := ∃ cs f, w.heap[g]? = some (.cells cs t f)
theorem Typed.ne {w : World} {g h : Nat} {t u : TypeId} (a : Typed w g t) (b : Typed w h u) (hne : t ≠ u) : g ≠ h := by
  rintro rfl
  obtain ⟨_, _, a⟩ := a
  obtain ⟨_, _, b⟩ := b
  rw [a] at b
  injection b with b
  injection b with _ b
  exact hne b
theorem Typed.keep {S : Nat → Prop} {w w' : World} {g : Nat} {t : TypeId} (h : Typed w g t) (k : Keeps S w w') (hg : ¬ S g) : Typed w' g t := by
  obtain ⟨cs, f, h⟩ := h
  exact ⟨cs, f, (k.block g (Array.getElem?_eq_some_iff.1 h).1 hg).trans h⟩
theorem Typed.lt {w : World} {g : Nat} {t : TypeId} (h : Typed w g t) : g < w.heap.size := by
  obtain ⟨cs, f, h⟩ := h
  exact (Array.getElem?_eq_some_iff.1 h).1
theorem Whole.typed {w : World} {g : Nat} {t : TypeId} {cs : Array Value} (h : Whole w g t cs) : Typed w g t := ⟨cs, _, h⟩
def enV : Value := .iface 58 (.agg #[])
/-- The settings. -/
def ConfAt (w : World) (C : Nat) (gl : Int) : Prop := ∃ cs, Whole w C 40 cs ∧ cs[1]? = some (.string ⟨#[108, 101, 118, 101, 108]⟩) ∧ cs[2]? = some (.string ⟨#[109, 101, 115, 115, 97, 103, 101]⟩) ∧ cs[9]? = some (.int .i8 gl) ∧ cs[10]? = some (.bool false) ∧ cs[15]? = some enV
theorem ConfAt.keep {S : Nat → Prop} {w w' : World} {C : Nat} {gl : Int} (h : ConfAt w C gl) (k : Keeps S w w') (hC : ¬ S C) : ConfAt w' C gl := by
  obtain ⟨cs, h1, h2⟩ := h
  exact ⟨cs, h1.keep k hC, h2⟩
theorem ConfAt.typed {w : World} {C : Nat} {gl : Int} (h : ConfAt w C gl) : Typed w C 40 := by
  obtain ⟨cs, h1, _⟩ := h
  exact h1.typed
theorem ConfAt.enc {w : World} {C : Nat} {gl : Int} (h : ConfAt w C gl) : w.cell? ⟨C, 15, none⟩ = some (.iface 58 (.agg #[])) := by
  obtain ⟨cs, h1, _, _, _, _, h2⟩ := h
  rw [h1.cell, h2]
  rfl
/-- An event. -/
def EvAt (w : World) (E g n : Nat) (lv : Int) (C L : Nat) : Prop := Whole w E 77 #[.slice (some ⟨g, 0, none⟩) n 500, .iface 64 (adV L), .int .i8 lv, .bool false, .slice none 0 0, .int .i64 0, .pointer (some ⟨C, 0, none⟩)]
theorem EvAt.cell0 {w : World} {E g n C L : Nat} {lv : Int} (h : EvAt w E g n lv C L) : w.cell? ⟨E, 0, none⟩ = some (.slice (some ⟨g, 0, none⟩) n 500) := Whole.cell h 0
theorem EvAt.put {w : World} {E g n C L : Nat} {lv : Int} (h : EvAt w E g n lv C L) (n' : Nat) : EvAt (w.setCell ⟨E, 0, none⟩ (.slice (some ⟨g, 0, none⟩) n' 500)) E g n' lv C L := Whole.set h 0 _
theorem EvAt.keep {S : Nat → Prop} {w w' : World} {E g n C L : Nat} {lv : Int} (h : EvAt w E g n lv C L) (k : Keeps S w w') (hE : ¬ S E) : EvAt w' E g n lv C L := Whole.keep h k hE
theorem EvAt.typed {w : World} {E g n C L : Nat} {lv : Int} (h : EvAt w E g n lv C L) : Typed w E 77 := Whole.typed h
theorem Keeps.of_drew {S : Nat → Prop} {w w' : World} (h : Keeps S w.drew w') : Keeps S w w' := ⟨h.os, h.tape, h.output, h.size, h.block⟩
theorem buf_bb {w : World} {g : Nat} {l : List UInt8} (h : Buf w g l) : BB w g l := ⟨h.lt, fun i hi => h.cell i hi, fun i _ => h.frozen i⟩
theorem LinesAt.typed {w : World} {base L : Nat} {rows : List (List UInt8)} {ob : Option Nat} (h : LinesAt w base L rows ob) : Typed w L 29 := by
  obtain ⟨v, h1, _⟩ := h
  exact h1.typed
/-- All that an event stands on. -/
structure Sys (w : World) (base E g n : Nat) (lv : Int) (C L : Nat) (gl : Int) (l : List UInt8) : Prop where
  ev : EvAt w E g n lv C L
  cf : ConfAt w C gl
  bf : Buf w g l
  bt : Typed w g 5
  ln : l.length = n
  li : LinesAt w base L [] none
  bE : base ≤ E
  bg : base ≤ g
  bL : base ≤ L
/-- The buffer has turned. -/
theorem Sys.buf {w w' : World} {base E g n : Nat} {lv : Int} {C L : Nat} {gl : Int} {l m : List UInt8} (h : Sys w base E g n lv C L gl l) (k : Keeps (fun k => k = g) w w') (hb : Buf w' g (l ++ m)) (n' : Nat) (hn : n' = n + m.length) :
    Sys (w'.setCell ⟨E, 0, none⟩ (.slice (some ⟨g, 0, none⟩) n' 500)) base E g n' lv C L gl (l ++ m) := by
  have nE : ¬ E = g := h.ev.typed.ne h.bt (by decide)
  have nC : ¬ C = g := h.cf.typed.ne h.bt (by decide)
  have nL : ¬ L = g := h.li.typed.ne h.bt (by decide)
  have nCE : C ≠ E := h.cf.typed.ne h.ev.typed (by decide)
  have nLE : L ≠ E := h.li.typed.ne h.ev.typed (by decide)
  have k2 : Keeps (fun k => k = E) w' (w'.setCell ⟨E, 0, none⟩ (.slice (some ⟨g, 0, none⟩) n' 500)) := (Keeps.refl (fun k => k = E) w').set (p := ⟨E, 0, none⟩) (.inl rfl) _
  have ht : Typed w' g 5 := by
    obtain ⟨cs, hw, _⟩ := hb
    exact hw.typed
  refine ⟨(h.ev.keep k nE).put n', (h.cf.keep k nC).keep k2 nCE, hb.keep k2 (fun e => nE e.symm), ht.keep k2 (fun e => nE e.symm), by rw [List.length_append, h.ln, hn], (h.li.keep k nL (fun _ h => by cases h)).keep k2 nLE (fun _ h => by cases h), h.bE, h.bg, h.bL⟩
theorem Sys.keep {S : Nat → Prop} {w w' : World} {base E g n : Nat} {lv : Int} {C L : Nat} {gl : Int} {l : List UInt8} (h : Sys w base E g n lv C L gl l) (k : Keeps S w w') (hS : ∀ i, i = E ∨ i = C ∨ i = g ∨ i = L → ¬ S i) : Sys w' base E g n lv C L gl l :=
  ⟨h.ev.keep k (hS _ (.inl rfl)), h.cf.keep k (hS _ (.inr (.inl rfl))), h.bf.keep k (hS _ (.inr (.inr (.inl rfl)))), h.bt.keep k (hS _ (.inr (.inr (.inl rfl)))), h.ln, h.li.keep k (hS _ (.inr (.inr (.inr rfl)))) (fun _ h => by cases h), h.bE, h.bg, h.bL⟩
theorem Sys.later {w w' : World} {base E g n : Nat} {lv : Int} {C L : Nat} {gl : Int} {l : List UInt8} (h : Sys w base E g n lv C L gl l) (k : Keeps (fun _ => False) w w') : Sys w' base E g n lv C L gl l := h.keep k (fun _ _ => id)
/-- The frame of a turn of the buffer. -/
theorem Sys.below {w w' : World} {base E g n : Nat} {lv : Int} {C L : Nat} {gl : Int} {l : List UInt8} (h : Sys w base E g n lv C L gl l) (hb : base ≤ w.heap.size) (k : Keeps (fun k => k = g) w w') (v : Value) : Below base w (w'.setCell ⟨E, 0, none⟩ v) :=
  (k.below hb (fun i e => by rw [e]; exact h.bg)).setCell (p := ⟨E, 0, none⟩) h.bE v

/-- What a write leaves. -/
def WEnd (base L : Nat) (w : World) (e : Ending) (w' : World) : Prop := e = .returned .nilIface ∧ (∃ r ob, LinesAt w' base L [r] ob) ∧ Below base w w'
set_option maxRecDepth 100000 in
theorem put_any (p : Value) (w : World) : Calls Tryz.prog 33 #[p] w fun e w' => e = .returned (.tuple #[]) ∧ w = w' := by
  go_enter Tryz.func33, Tryz.ntmps33
  go_wp2_with fail
  go_returns
  exact ⟨rfl, rfl⟩

set_option maxRecDepth 100000 in
set_option maxHeartbeats 8000000 in
theorem write_walk (base E g n : Nat) (lv : Int) (C L : Nat) (gl : Int) (l : List UInt8) (w : World) (h : Sys w base E g n lv C L gl l) (hlv : lv ≠ 7) (hn : n ≤ 400) (hbase : base ≤ w.heap.size) :
    Calls Tryz.prog 27 #[.pointer (some ⟨E, 0, none⟩)] w (WEnd base L w) := by
  have e2 : w.cell? ⟨E, 2, none⟩ = some (.int .i8 lv) := Whole.cell h.ev 2
  have hlb : (lv == 7) = false := by simpa using hlv
  have hlb2 : (lv != 7) = true := by simpa using hlv
  have HH := Lib.hid h
  clear h
  have e0 := HH.out.ev.cell0
  have e6 : w.cell? ⟨E, 6, none⟩ = some (.pointer (some ⟨C, 0, none⟩)) := Whole.cell HH.out.ev 6
  have c15 := HH.out.cf.enc
  have fE := Whole.frozen HH.out.ev 0
  have c92 := end_any g n l w.drew HH.out.bf HH.out.ln (by omega)
  have C92 := Lib.hid c92
  have hgE : g ≠ E := HH.out.bt.ne HH.out.ev.typed (by decide)
  have hgC : g ≠ C := HH.out.bt.ne HH.out.cf.typed (by decide)
  have hEl := HH.out.ev.typed.lt
  have hCl := HH.out.cf.typed.lt
  clear c92
  go_enter Tryz.func27, Tryz.ntmps27
  go_upto_region 4 with fail
  refine wp_region_held_drew (S := (fun W => W.cell? ⟨E, 6, none⟩ = some (.pointer (some ⟨C, 0, none⟩)) ∧ W.cell? ⟨C, 15, none⟩ = some (.iface 58 (.agg #[])))) (by kernel_rfl) ?_ (fun hHeld => ?_)
  · exact ⟨e6, c15⟩
  refine wpAnyH_take (i := 0) (v := ?_) rfl (by kernel_rfl) (by kernel_rfl) (by kernel_rfl) (fun _ _ _ h => h) (Or.inl ⟨by rfl, ?_⟩) (by assumption) ?_
  rotate_left
  focus (intro w hSw; (try dsimp only at hSw); go_simp; (try with_reducible rfl); done)
  try simp only [Act.put]
  refine wpAnyH_take (i := 1) (v := ?_) rfl (by kernel_rfl) (by kernel_rfl) (by kernel_rfl) (fun _ _ _ h => h) (Or.inl ⟨by rfl, ?_⟩) (by assumption) ?_
  rotate_left
  focus (intro w hSw; (try dsimp only at hSw); go_simp; (try with_reducible rfl); done)
  try simp only [Act.put]
  refine wpAnyH_take (i := 2) (v := ?_) rfl (by kernel_rfl) (by kernel_rfl) (by kernel_rfl) (fun _ _ _ h => h) (Or.inl ⟨by rfl, ?_⟩) (by assumption) ?_
  rotate_left
  focus (intro w hSw; (try dsimp only at hSw); go_simp; (try with_reducible rfl); done)
  try simp only [Act.put]
  refine wpAnyH_take (i := 3) (v := ?_) rfl (by kernel_rfl) (by kernel_rfl) (by kernel_rfl) (fun _ _ _ h => h) (Or.inl ⟨by rfl, ?_⟩) (by assumption) ?_
  rotate_left
  focus (intro w hSw; (try dsimp only at hSw); go_simp; (try with_reducible rfl); done)
  try simp only [Act.put]
  refine wpAnyH_take (i := 4) (v := ?_) rfl (by kernel_rfl) (by kernel_rfl) (by kernel_rfl) (fun _ _ _ h => h) (Or.inl ⟨by rfl, ?_⟩) (by assumption) ?_
  rotate_left
  focus (intro w hSw; (try dsimp only at hSw); go_simp; (try with_reducible rfl); done)
  try simp only [Act.put]
  refine wpAnyH_take (i := 5) (v := ?_) rfl (by kernel_rfl) (by kernel_rfl) (by kernel_rfl) (fun _ _ _ h => h) (Or.inl ⟨by rfl, ?_⟩) (by assumption) ?_
  rotate_left
  focus (intro w hSw; (try dsimp only at hSw); go_simp; (try with_reducible rfl); done)
  try simp only [Act.put]
  refine wpAnyH_take (i := 6) (v := ?_) rfl (by kernel_rfl) (by kernel_rfl) (by kernel_rfl) (fun _ _ _ h => h) (Or.inl ⟨by rfl, ?_⟩) (by assumption) ?_
  rotate_left
  focus (intro w hSw; (try dsimp only at hSw); go_simp; (try with_reducible rfl); done)
  try simp only [Act.put]
  refine wpAnyH_take (i := 7) (v := ?_) rfl (by kernel_rfl) (by kernel_rfl) (by kernel_rfl) (fun _ _ _ h => h) (Or.inl ⟨by rfl, ?_⟩) (by assumption) ?_
  rotate_left
  focus (intro w hSw; (try dsimp only at hSw); go_simp; (try with_reducible rfl); done)
  try simp only [Act.put]
  refine wpAnyH_take (i := 8) (v := ?_) rfl (by kernel_rfl) (by kernel_rfl) (by kernel_rfl) (fun _ _ _ h => h) (Or.inl ⟨by rfl, ?_⟩) (by assumption) ?_
  rotate_left
  focus (intro w hSw; (try dsimp only at hSw); go_simp; (try with_reducible rfl); done)
  try simp only [Act.put]
  refine wpAnyH_take (i := 9) (v := ?_) rfl (by kernel_rfl) (by kernel_rfl) (by kernel_rfl) (fun _ _ _ h => h) (Or.inl ⟨by rfl, ?_⟩) (by assumption) ?_
  rotate_left
  focus (intro w hSw; (try dsimp only at hSw); go_simp; (try with_reducible rfl); done)
  try simp only [Act.put]
  refine wpAnyH_take (i := 10) (v := ?_) rfl (by kernel_rfl) (by kernel_rfl) (by kernel_rfl) (fun _ _ _ h => h) (Or.inl ⟨by rfl, ?_⟩) (by assumption) ?_
  rotate_left
  focus (intro w hSw; (try dsimp only at hSw); go_simp; (try with_reducible rfl); done)
  try simp only [Act.put]
  refine wpAnyH_take (i := 12) (v := ?_) rfl (by kernel_rfl) (by kernel_rfl) (by kernel_rfl) (fun _ _ _ h => h) (Or.inl ⟨by rfl, ?_⟩) (by assumption) ?_
  rotate_left
  focus (intro w hSw; (try dsimp only at hSw); go_simp; (try with_reducible rfl); done)
  try simp only [Act.put]
  refine wpAnyH_take (i := 13) (v := ?_) rfl (by kernel_rfl) (by kernel_rfl) (by kernel_rfl) (fun _ _ _ h => h) (Or.inl ⟨by rfl, ?_⟩) (by assumption) ?_
  rotate_left
  focus (intro w hSw; (try dsimp only at hSw); go_simp; (try with_reducible rfl); done)
  try simp only [Act.put]
  refine wpAnyH_ready (rs := [11]) (by kernel_rfl) (by simp) ?_
  refine AllReadyH.cons rfl (fun K hK => ?_) AllReadyH.nil
  go_simp
  refine hK.out _ _ ?_ (fun hHeld => ?_)
  · exact ⟨e6, c15⟩
  clear hK K
  try simp only [Act.put]
  refine wpAnyH_ready (rs := [14]) (by kernel_rfl) (by simp) ?_
  refine AllReadyH.cons rfl (fun K hK => ?_) AllReadyH.nil
  (go_simp; rw [m92]; go_wp2_with ((go_at_call 92; refine C92.out.mono ?_; rintro e w1 ⟨rfl, hb1, hk1⟩; have hb1 := Lib.hid hb1; have hk1 := Lib.hid (Keeps.of_drew hk1); have e61 : w1.cell? ⟨E, 6, none⟩ = some (.pointer (some ⟨C, 0, none⟩)) := (hk1.out.cell hEl (fun e => hgE e.symm)).trans e6; have c151 : w1.cell? ⟨C, 15, none⟩ = some (.iface 58 (.agg #[])) := (hk1.out.cell hCl (fun e => hgC e.symm)).trans c15)))
  refine hK.out _ _ ?_ (fun hHeld => ?_)
  · exact ⟨e61, c151⟩
  clear hK K
  try simp only [Act.put]
  refine wpAnyH_take (i := 15) (v := ?_) rfl (by kernel_rfl) (by kernel_rfl) (by kernel_rfl) (fun _ _ _ h => h) (Or.inl ⟨by rfl, ?_⟩) (by assumption) ?_
  rotate_left
  focus (intro w hSw; (try dsimp only at hSw); go_simp; (try with_reducible rfl); done)
  try simp only [Act.put]
  refine wpAnyH_take (i := 16) (v := ?_) rfl (by kernel_rfl) (by kernel_rfl) (by kernel_rfl) (fun _ _ _ h => h) (Or.inl ⟨by rfl, ?_⟩) (by assumption) ?_
  rotate_left
  focus (intro w hSw; (try dsimp only at hSw); go_simp; (try with_reducible rfl); done)
  try simp only [Act.put]
  refine wpAnyH_ready (rs := [17]) (by kernel_rfl) (by simp) ?_
  refine AllReadyH.cons rfl (fun K hK => ?_) AllReadyH.nil
  (have e01 := (hk1.out.cell hEl (fun e => hgE e.symm)).trans e0; have fE1 : w1.frozen? ⟨E, 0, none⟩ = false := (hk1.out.frozen hEl (fun e => hgE e.symm)).trans fE; have y1 := Lib.hid (HH.out.buf hk1.out hb1.out (n + 1) rfl); have b1 := Lib.hid (HH.out.below hbase hk1.out (.slice (some ⟨g, 0, none⟩) (n + 1) 500)); have e62 := Whole.cell y1.out.ev 6; have c152 := y1.out.cf.enc; go_simp)
  refine hK.out _ _ ?_ (fun hHeld => ?_)
  · exact ⟨e62, c152⟩
  clear hK K
  try simp only [Act.put]
  refine wpAnyH_done (by kernel_rfl) ?_ _
  generalize w1.setCell ⟨E, 0, none⟩ (.slice (some ⟨g, 0, none⟩) (n + 1) 500) = W at y1 b1 ⊢
  clear HH e0 e2 e6 c15 fE C92 e61 c151 e01 fE1 hb1 hk1
  have e0 := y1.out.ev.cell0
  have e6 : W.cell? ⟨E, 6, none⟩ = some (.pointer (some ⟨C, 0, none⟩)) := Whole.cell y1.out.ev 6
  have c15 := y1.out.cf.enc
  have fE := Whole.frozen y1.out.ev 0
  have C113 := Lib.hid (line_any g (n + 1) (l ++ [125]) W.drew y1.out.bf y1.out.ln (by omega))
  have hEl := y1.out.ev.typed.lt
  have hCl := y1.out.cf.typed.lt
  have hbase1 : base ≤ W.heap.size := Nat.le_trans hbase b1.out.size
  go_upto_region 5 with fail
  refine wp_region_held_drew (S := (fun W => W.cell? ⟨E, 6, none⟩ = some (.pointer (some ⟨C, 0, none⟩)) ∧ W.cell? ⟨C, 15, none⟩ = some (.iface 58 (.agg #[])))) (by kernel_rfl) ?_ (fun hHeld => ?_)
  · exact ⟨e6, c15⟩
  refine wpAnyH_take (i := 0) (v := ?_) rfl (by kernel_rfl) (by kernel_rfl) (by kernel_rfl) (fun _ _ _ h => h) (Or.inl ⟨by rfl, ?_⟩) (by assumption) ?_
  rotate_left
  focus (intro w hSw; (try dsimp only at hSw); go_simp; (try with_reducible rfl); done)
  try simp only [Act.put]
  refine wpAnyH_take (i := 1) (v := ?_) rfl (by kernel_rfl) (by kernel_rfl) (by kernel_rfl) (fun _ _ _ h => h) (Or.inl ⟨by rfl, ?_⟩) (by assumption) ?_
  rotate_left
  focus (intro w hSw; (try dsimp only at hSw); go_simp; (try with_reducible rfl); done)
  try simp only [Act.put]
  refine wpAnyH_take (i := 2) (v := ?_) rfl (by kernel_rfl) (by kernel_rfl) (by kernel_rfl) (fun _ _ _ h => h) (Or.inl ⟨by rfl, ?_⟩) (by assumption) ?_
  rotate_left
  focus (intro w hSw; (try dsimp only at hSw); go_simp; (try with_reducible rfl); done)
  try simp only [Act.put]
  refine wpAnyH_take (i := 3) (v := ?_) rfl (by kernel_rfl) (by kernel_rfl) (by kernel_rfl) (fun _ _ _ h => h) (Or.inl ⟨by rfl, ?_⟩) (by assumption) ?_
  rotate_left
  focus (intro w hSw; (try dsimp only at hSw); go_simp; (try with_reducible rfl); done)
  try simp only [Act.put]
  refine wpAnyH_take (i := 4) (v := ?_) rfl (by kernel_rfl) (by kernel_rfl) (by kernel_rfl) (fun _ _ _ h => h) (Or.inl ⟨by rfl, ?_⟩) (by assumption) ?_
  rotate_left
  focus (intro w hSw; (try dsimp only at hSw); go_simp; (try with_reducible rfl); done)
  try simp only [Act.put]
  refine wpAnyH_take (i := 5) (v := ?_) rfl (by kernel_rfl) (by kernel_rfl) (by kernel_rfl) (fun _ _ _ h => h) (Or.inl ⟨by rfl, ?_⟩) (by assumption) ?_
  rotate_left
  focus (intro w hSw; (try dsimp only at hSw); go_simp; (try with_reducible rfl); done)
  try simp only [Act.put]
  refine wpAnyH_take (i := 6) (v := ?_) rfl (by kernel_rfl) (by kernel_rfl) (by kernel_rfl) (fun _ _ _ h => h) (Or.inl ⟨by rfl, ?_⟩) (by assumption) ?_
  rotate_left
  focus (intro w hSw; (try dsimp only at hSw); go_simp; (try with_reducible rfl); done)
  try simp only [Act.put]
  refine wpAnyH_take (i := 7) (v := ?_) rfl (by kernel_rfl) (by kernel_rfl) (by kernel_rfl) (fun _ _ _ h => h) (Or.inl ⟨by rfl, ?_⟩) (by assumption) ?_
  rotate_left
  focus (intro w hSw; (try dsimp only at hSw); go_simp; (try with_reducible rfl); done)
  try simp only [Act.put]
  refine wpAnyH_take (i := 8) (v := ?_) rfl (by kernel_rfl) (by kernel_rfl) (by kernel_rfl) (fun _ _ _ h => h) (Or.inl ⟨by rfl, ?_⟩) (by assumption) ?_
  rotate_left
  focus (intro w hSw; (try dsimp only at hSw); go_simp; (try with_reducible rfl); done)
  try simp only [Act.put]
  refine wpAnyH_take (i := 9) (v := ?_) rfl (by kernel_rfl) (by kernel_rfl) (by kernel_rfl) (fun _ _ _ h => h) (Or.inl ⟨by rfl, ?_⟩) (by assumption) ?_
  rotate_left
  focus (intro w hSw; (try dsimp only at hSw); go_simp; (try with_reducible rfl); done)
  try simp only [Act.put]
  refine wpAnyH_take (i := 10) (v := ?_) rfl (by kernel_rfl) (by kernel_rfl) (by kernel_rfl) (fun _ _ _ h => h) (Or.inl ⟨by rfl, ?_⟩) (by assumption) ?_
  rotate_left
  focus (intro w hSw; (try dsimp only at hSw); go_simp; (try with_reducible rfl); done)
  try simp only [Act.put]
  refine wpAnyH_take (i := 12) (v := ?_) rfl (by kernel_rfl) (by kernel_rfl) (by kernel_rfl) (fun _ _ _ h => h) (Or.inl ⟨by rfl, ?_⟩) (by assumption) ?_
  rotate_left
  focus (intro w hSw; (try dsimp only at hSw); go_simp; (try with_reducible rfl); done)
  try simp only [Act.put]
  refine wpAnyH_take (i := 13) (v := ?_) rfl (by kernel_rfl) (by kernel_rfl) (by kernel_rfl) (fun _ _ _ h => h) (Or.inl ⟨by rfl, ?_⟩) (by assumption) ?_
  rotate_left
  focus (intro w hSw; (try dsimp only at hSw); go_simp; (try with_reducible rfl); done)
  try simp only [Act.put]
  refine wpAnyH_ready (rs := [11]) (by kernel_rfl) (by simp) ?_
  refine AllReadyH.cons rfl (fun K hK => ?_) AllReadyH.nil
  go_simp
  refine hK.out _ _ ?_ (fun hHeld => ?_)
  · exact ⟨e6, c15⟩
  clear hK K
  try simp only [Act.put]
  refine wpAnyH_ready (rs := [14]) (by kernel_rfl) (by simp) ?_
  refine AllReadyH.cons rfl (fun K hK => ?_) AllReadyH.nil
  (go_simp; rw [m113]; go_wp2_with ((go_at_call 113; refine C113.out.mono ?_; rintro e w1 ⟨rfl, hb1, hk1⟩; have hb1 := Lib.hid hb1; have hk1 := Lib.hid (Keeps.of_drew hk1); have e61 : w1.cell? ⟨E, 6, none⟩ = some (.pointer (some ⟨C, 0, none⟩)) := (hk1.out.cell hEl (fun e => hgE e.symm)).trans e6; have c151 : w1.cell? ⟨C, 15, none⟩ = some (.iface 58 (.agg #[])) := (hk1.out.cell hCl (fun e => hgC e.symm)).trans c15)))
  refine hK.out _ _ ?_ (fun hHeld => ?_)
  · exact ⟨e61, c151⟩
  clear hK K
  try simp only [Act.put]
  refine wpAnyH_take (i := 15) (v := ?_) rfl (by kernel_rfl) (by kernel_rfl) (by kernel_rfl) (fun _ _ _ h => h) (Or.inl ⟨by rfl, ?_⟩) (by assumption) ?_
  rotate_left
  focus (intro w hSw; (try dsimp only at hSw); go_simp; (try with_reducible rfl); done)
  try simp only [Act.put]
  refine wpAnyH_take (i := 16) (v := ?_) rfl (by kernel_rfl) (by kernel_rfl) (by kernel_rfl) (fun _ _ _ h => h) (Or.inl ⟨by rfl, ?_⟩) (by assumption) ?_
  rotate_left
  focus (intro w hSw; (try dsimp only at hSw); go_simp; (try with_reducible rfl); done)
  try simp only [Act.put]
  refine wpAnyH_ready (rs := [17]) (by kernel_rfl) (by simp) ?_
  refine AllReadyH.cons rfl (fun K hK => ?_) AllReadyH.nil
  (have e01 := (hk1.out.cell hEl (fun e => hgE e.symm)).trans e0; have fE1 : w1.frozen? ⟨E, 0, none⟩ = false := (hk1.out.frozen hEl (fun e => hgE e.symm)).trans fE; have y2 := Lib.hid (y1.out.buf hk1.out hb1.out (n + 1 + 1) rfl); have b2 := Lib.hid (b1.out.trans (y1.out.below hbase1 hk1.out (.slice (some ⟨g, 0, none⟩) (n + 1 + 1) 500))); have e62 := Whole.cell y2.out.ev 6; have c152 := y2.out.cf.enc; go_simp)
  refine hK.out _ _ ?_ (fun hHeld => ?_)
  · exact ⟨e62, c152⟩
  clear hK K
  try simp only [Act.put]
  refine wpAnyH_done (by kernel_rfl) ?_ _
  generalize w1.setCell ⟨E, 0, none⟩ (.slice (some ⟨g, 0, none⟩) (n + 1 + 1) 500) = X at y2 b2 ⊢
  clear y1 b1 e0 e6 c15 fE C113 e61 c151 e01 fE1 hb1 hk1
  have x0 := y2.out.ev.cell0
  have x1 : X.cell? ⟨E, 1, none⟩ = some (.iface 64 (adV L)) := Whole.cell y2.out.ev 1
  have x2 : X.cell? ⟨E, 2, none⟩ = some (.int .i8 lv) := Whole.cell y2.out.ev 2
  have hbase2 : base ≤ X.heap.size := Nat.le_trans hbase b2.out.size
  have hLE : L ≠ E := y2.out.li.typed.ne y2.out.ev.typed (by decide)
  have hEl3 := y2.out.ev.typed.lt
  have hnE : ¬ (E = L ∨ none = some E) := by simp; exact fun e => hLE e.symm
  have C139 := Lib.hid (adapter_write L [] none g (n + 1 + 1) 500 base lv (l ++ [125] ++ [10]) X.drew y2.out.li (buf_bb y2.out.bf) y2.out.ln (by omega) (by simp) hbase2 (by simp))
  go_upto_region 7 with fail
  go_region_held3 (fun W => W.cell? ⟨E, 0, none⟩ = some (.slice (some ⟨g, 0, none⟩) (n + 1 + 1) 500) ∧ W.cell? ⟨E, 1, none⟩ = some (.iface 64 (adV L)) ∧ W.cell? ⟨E, 2, none⟩ = some (.int .i8 lv)) (first | exact ⟨x0, x1, x2⟩ | exact ⟨x01, x11, x21⟩) ((go_at_call 139; refine C139.out.mono ?_; rintro e w1 ⟨rfl, ob', hl1, hob1, hk1⟩; have hl1 := Lib.hid hl1; have hk1 := Lib.hid (Keeps.of_drew hk1); have x01 := (hk1.out.cell (p := ⟨E, 0, none⟩) hEl3 hnE).trans x0; have x11 := (hk1.out.cell (p := ⟨E, 1, none⟩) hEl3 hnE).trans x1; have x21 := (hk1.out.cell (p := ⟨E, 2, none⟩) hEl3 hnE).trans x2))
  go_wp2_with (go_at_call 33; refine (put_any _ _).mono ?_; rintro e w2 ⟨rfl, rfl⟩)
  go_returns
  refine ⟨rfl, ⟨_, ob', hl1.out⟩, b2.out.trans (hk1.out.below hbase2 ?_)⟩
  rintro k (rfl | h)
  · exact y2.out.bL
  · cases h
#print axioms write_walk
end Go.Proofs.YtpenbgiobeebiaaGreatDoor
