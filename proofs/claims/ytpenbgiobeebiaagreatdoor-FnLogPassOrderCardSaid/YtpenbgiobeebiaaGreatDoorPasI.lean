/- A logger's new event. -/
import Derived.Test.YtpenbgiobeebiaaGreatDoorPasH
namespace Go.Proofs.YtpenbgiobeebiaaGreatDoor
open Go.RowKit

/-- An event that a message may follow. -/
def NEnd (base C L : Nat) (ev gl : Int) (w : World) (e : Ending) (w' : World) : Prop := ∃ E g n l k1 M, e = .returned (.pointer (some ⟨E, 0, none⟩)) ∧ Sys w' base E g n ev C L gl l ∧ Adds 112 g n k1 l M ⟨#[109, 101, 115, 115, 97, 103, 101]⟩ ∧ M.length = k1 ∧ n + k1 + 3 ≤ 400 ∧ Below base w w'

set_option maxRecDepth 100000 in
theorem event_no (G C L : Nat) (lv gl ev : Int) (w : World) (h : LogAt w G lv C L) (hC : ConfAt w C gl) (h7 : lv ≠ 7) (hno : ¬ (lv ≤ ev ∧ gl ≤ ev)) :
    Calls Tryz.prog 19 #[.pointer (some ⟨G, 0, none⟩), .int .i8 ev] w fun e w' => e = .returned (.pointer none) ∧ w = w' := by
  have C24 := Lib.hid (should_no G C L lv gl ev w h hC h7 hno)
  clear h hC h7 hno
  go_enter Tryz.func19, Tryz.ntmps19
  go_wp2_with ((go_at_call 24; refine C24.out.mono ?_; rintro e w1 ⟨rfl, rfl⟩))
  go_returns
  exact ⟨rfl, rfl⟩

theorem ConfAt.lvl {w : World} {C : Nat} {gl : Int} (h : ConfAt w C gl) : w.cell? ⟨C, 1, none⟩ = some (.string ⟨#[108, 101, 118, 101, 108]⟩) := by
  obtain ⟨cs, h1, h2, _⟩ := h
  rw [h1.cell, h2]

set_option maxRecDepth 100000 in
set_option maxHeartbeats 8000000 in
theorem event_six (base G C L : Nat) (lv gl : Int) (w : World) (h : LogAt w G lv C L) (hC : ConfAt w C gl) (hL : LinesAt w base L [] none) (bL : base ≤ L) (hbase : base ≤ w.heap.size) (h7 : lv ≠ 7) (h1 : lv ≤ 6) (h2 : gl ≤ 6) :
    Calls Tryz.prog 19 #[.pointer (some ⟨G, 0, none⟩), .int .i8 6] w (NEnd base C L 6 gl w) := by
  have C24 := Lib.hid (should_yes G C L lv gl 6 w h hC h7 h1 h2)
  have C25 := Lib.hid (event_walk base L C 6 gl w.drew hC hL bL hbase)
  have g0 : w.cell? ⟨G, 0, none⟩ = some (.iface 64 (adV L)) := Whole.cell h 0
  have g4 : w.cell? ⟨G, 4, none⟩ = some (.slice none 0 0) := Whole.cell h 4
  have g5 : w.cell? ⟨G, 5, none⟩ = some (.bool false) := Whole.cell h 5
  have g6 : w.cell? ⟨G, 6, none⟩ = some (.pointer (some ⟨C, 0, none⟩)) := Whole.cell h 6
  have HG := Lib.hid h
  have hGl := h.lt
  clear h hC hL h7 h1 h2
  go_enter Tryz.func19, Tryz.ntmps19
  go_wp2_with ((go_at_call 24; refine C24.out.mono ?_; rintro e w1 ⟨rfl, rfl⟩))
  go_region_held3 (fun W => W.cell? ⟨G, 0, none⟩ = some (.iface 64 (adV L)) ∧ W.cell? ⟨G, 4, none⟩ = some (.slice none 0 0) ∧ W.cell? ⟨G, 5, none⟩ = some (.bool false) ∧ W.cell? ⟨G, 6, none⟩ = some (.pointer (some ⟨C, 0, none⟩))) (first | exact ⟨g0, g4, g5, g6⟩ | exact ⟨g01, g41, g51, g61⟩) ((go_at_call 25; refine C25.out.mono ?_; rintro e w1 ⟨E, g, rfl, hs1, hb1⟩; have hs1 := Lib.hid hs1; have hb1 := Lib.hid (Below.of_drew hb1); have HG1 := Lib.hid (HG.out.below hb1.out hGl); have g01 := HG1.out.cell 0; have g41 := HG1.out.cell 4; have g51 := HG1.out.cell 5; have g61 := HG1.out.cell 6))
  have g3 : w1.cell? ⟨G, 3, none⟩ = some (.slice none 0 0) := HG1.out.cell 3
  clear g0 g4 g5 g6 g01 g41 g51 g61 C24 C25
  go_wp2_with fail
  go_returns
  refine ⟨E, g, 1, [123], 10, _, rfl, hs1.out, adds_first g 7 [109, 101, 115, 115, 97, 103, 101] _ _ rfl rfl rfl (by unfold PlainStr; decide) (by omega), rfl, by omega, ⟨hb1.out.os, hb1.out.tape, hb1.out.output, hb1.out.size, fun i hi => hb1.out.block i (Nat.lt_of_lt_of_le hi hbase)⟩⟩

set_option maxRecDepth 100000 in
set_option maxHeartbeats 8000000 in
theorem event_lv (base G C L : Nat) (lv gl ev : Int) (w : World) (h : LogAt w G lv C L) (hC : ConfAt w C gl) (hL : LinesAt w base L [] none) (bL : base ≤ L) (hbase : base ≤ w.heap.size) (h7 : lv ≠ 7) (h1 : lv ≤ ev) (h2 : gl ≤ ev) (h3 : -1 ≤ ev) (h4 : ev ≤ 5) :
    Calls Tryz.prog 19 #[.pointer (some ⟨G, 0, none⟩), .int .i8 ev] w (NEnd base C L ev gl w) := by
  have C24 := Lib.hid (should_yes G C L lv gl ev w h hC h7 h1 h2)
  have C25 := Lib.hid (event_walk base L C ev gl w.drew hC hL bL hbase)
  have g0 : w.cell? ⟨G, 0, none⟩ = some (.iface 64 (adV L)) := Whole.cell h 0
  have g4 : w.cell? ⟨G, 4, none⟩ = some (.slice none 0 0) := Whole.cell h 4
  have g5 : w.cell? ⟨G, 5, none⟩ = some (.bool false) := Whole.cell h 5
  have g6 : w.cell? ⟨G, 6, none⟩ = some (.pointer (some ⟨C, 0, none⟩)) := Whole.cell h 6
  have HG := Lib.hid h
  have hGl := h.lt
  have hev : (ev != 6) = true := by simp; omega
  have hev2 : (ev == 6) = false := by simp; omega
  have HV := Lib.hid (And.intro h3 h4)
  clear h hC hL h7 h1 h2 h3 h4
  go_enter Tryz.func19, Tryz.ntmps19
  go_wp2_with ((go_at_call 24; refine C24.out.mono ?_; rintro e w1 ⟨rfl, rfl⟩))
  go_region_held3 (fun W => W.cell? ⟨G, 0, none⟩ = some (.iface 64 (adV L)) ∧ W.cell? ⟨G, 4, none⟩ = some (.slice none 0 0) ∧ W.cell? ⟨G, 5, none⟩ = some (.bool false) ∧ W.cell? ⟨G, 6, none⟩ = some (.pointer (some ⟨C, 0, none⟩))) (first | exact ⟨g0, g4, g5, g6⟩ | exact ⟨g01, g41, g51, g61⟩) ((go_at_call 25; refine C25.out.mono ?_; rintro e w1 ⟨E, g, rfl, hs1, hb1⟩; have hs1 := Lib.hid hs1; have hb1 := Lib.hid (Below.of_drew hb1); have HG1 := Lib.hid (HG.out.below hb1.out hGl); have g01 := HG1.out.cell 0; have g41 := HG1.out.cell 4; have g51 := HG1.out.cell 5; have g61 := HG1.out.cell 6))
  have g6 : w1.cell? ⟨G, 6, none⟩ = some (.pointer (some ⟨C, 0, none⟩)) := g61
  have c1 := hs1.out.cf.lvl
  have hGE : G ≠ E := HG1.out.ne hs1.out.ev (by decide)
  have hGg : G ≠ g := HG1.out.typed.ne hs1.out.bt (by decide)
  have hCE : C ≠ E := hs1.out.cf.typed.ne hs1.out.ev.typed (by decide)
  have hCg : C ≠ g := hs1.out.cf.typed.ne hs1.out.bt (by decide)
  have hGl1 := HG1.out.lt
  have hCl1 := hs1.out.cf.typed.lt
  have hp := lname_ok ev HV.out.1 HV.out.2
  obtain ⟨k, hk⟩ : ∃ k, (lname ev).data.toList.length = k := ⟨_, rfl⟩
  rw [hk] at hp
  have hlen : 8 + (k + 2) = (([34] ++ [108, 101, 118, 101, 108] ++ [34] ++ [58]) ++ ([34] ++ (lname ev).data.toList ++ [34])).length := by
    rw [← hk]
    simp only [List.length_append, List.length_cons, List.length_nil]
    omega
  have C26 := Lib.hid (str_walk base E g 1 8 (k + 2) ev C L gl [123] ([34] ++ [108, 101, 118, 101, 108] ++ [34] ++ [58]) ([34] ++ (lname ev).data.toList ++ [34]) ⟨#[108, 101, 118, 101, 108]⟩ (lname ev) w1.drew (hs1.out.later ⟨rfl, rfl, rfl, Nat.le_refl _, fun _ _ _ => rfl⟩) (adds_first g 5 [108, 101, 118, 101, 108] _ _ rfl rfl rfl (by unfold PlainStr; decide) (by omega)) (adds_str g 9 k _ _ _ _ rfl rfl rfl hk hp.1 (by omega)) hlen)
  have HP := Lib.hid (And.intro hp hk)
  clear hp hk
  clear g0 g4 g5 g01 g41 g51 g61 C24 C25
  go_upto_region 6 with fail
  go_region_held3 (fun W => W.cell? ⟨G, 6, none⟩ = some (.pointer (some ⟨C, 0, none⟩)) ∧ W.cell? ⟨C, 1, none⟩ = some (.string ⟨#[108, 101, 118, 101, 108]⟩)) (first | exact ⟨g6, c1⟩ | exact ⟨g61, c11⟩) (first
    | (go_at_call 23; refine (level_text ev HV.out.1 HV.out.2 _).mono ?_; rintro e w2 ⟨rfl, rfl⟩)
    | (go_at_call 26; refine C26.out.mono ?_; rintro e w2 ⟨rfl, hs2, hk2⟩; have hs2 := Lib.hid hs2; have hk2 := Lib.hid (Keeps.of_drew hk2); have g61 := (hk2.out.cell (p := ⟨G, 6, none⟩) hGl1 (by rintro (e | e); exact hGg e; exact hGE e)).trans g6; have c11 := (hk2.out.cell (p := ⟨C, 1, none⟩) hCl1 (by rintro (e | e); exact hCg e; exact hCE e)).trans c1))
  have g3 : w2.cell? ⟨G, 3, none⟩ = some (.slice none 0 0) := (HG1.out.keep hk2.out (by rintro (e | e); exact hGg e; exact hGE e)).cell 3
  clear g6 c1 g61 c11 C26
  go_wp2_with fail
  go_returns
  have hl : [123] ++ ([34] ++ [108, 101, 118, 101, 108] ++ [34] ++ [58] ++ ([34] ++ (lname ev).data.toList ++ [34])) = ([123] ++ ([34] ++ [108, 101, 118, 101, 108] ++ [34] ++ [58] ++ ([34] ++ (lname ev).data.toList))) ++ [34] := by simp only [List.append_assoc]
  have hn : 1 + 8 + (k + 2) = k + 10 + 1 := by omega
  have hk5 := HP.out.1.2
  have hk6 := HP.out.2
  have had : Adds 112 g (1 + 8 + (k + 2)) 11 ([123] ++ ([34] ++ [108, 101, 118, 101, 108] ++ [34] ++ [58] ++ ([34] ++ (lname ev).data.toList ++ [34]))) ([44] ++ ([34] ++ [109, 101, 115, 115, 97, 103, 101] ++ [34]) ++ [58]) ⟨#[109, 101, 115, 115, 97, 103, 101]⟩ := by
    rw [hl, hn]
    refine adds_next g (k + 10) 7 _ [109, 101, 115, 115, 97, 103, 101] _ 34 _ rfl (by decide) ?_ rfl rfl (by unfold PlainStr; decide) (by omega)
    rw [← hk6]
    simp only [List.length_append, List.length_cons, List.length_nil]
    omega
  have b1 : Below base w w1 := ⟨hb1.out.os, hb1.out.tape, hb1.out.output, hb1.out.size, fun i hi => hb1.out.block i (Nat.lt_of_lt_of_le hi hbase)⟩
  have b2 : Below base w1 w2 := hk2.out.below (Nat.le_trans hbase b1.size) (by rintro k (rfl | rfl); exact hs1.out.bg; exact hs1.out.bE)
  exact ⟨E, g, 1 + 8 + (k + 2), _, 11, _, rfl, hs2.out, had, rfl, by omega, b1.trans b2⟩
#print axioms event_lv
end Go.Proofs.YtpenbgiobeebiaaGreatDoor
