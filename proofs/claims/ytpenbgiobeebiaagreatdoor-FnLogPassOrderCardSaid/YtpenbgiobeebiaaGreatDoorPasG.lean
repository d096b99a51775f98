/- A message is written. -/
import Derived.Test.YtpenbgiobeebiaaGreatDoorPasF
namespace Go.Proofs.YtpenbgiobeebiaaGreatDoor
open Go.RowKit

theorem ConfAt.msg {w : World} {C : Nat} {gl : Int} (h : ConfAt w C gl) : w.cell? ⟨C, 2, none⟩ = some (.string ⟨#[109, 101, 115, 115, 97, 103, 101]⟩) := by
  obtain ⟨cs, h1, _, h2, _⟩ := h
  rw [h1.cell, h2]
/-- What a message leaves. -/
def MEnd (base L : Nat) (w : World) (e : Ending) (w' : World) : Prop := e = .returned (.tuple #[]) ∧ (∃ r ob, LinesAt w' base L [r] ob) ∧ Below base w w'

set_option maxRecDepth 100000 in
set_option maxHeartbeats 8000000 in
theorem msg_walk (base E g n k1 k2 : Nat) (lv : Int) (C L : Nat) (gl : Int) (l M V : List UInt8) (w : World) (h : Sys w base E g n lv C L gl l) (hlv : lv ≠ 7) (hn : n + k1 + k2 ≤ 400) (hbase : base ≤ w.heap.size)
    (hkey : Adds 112 g n k1 l M ⟨#[109, 101, 115, 115, 97, 103, 101]⟩) (hval : Adds 117 g (n + k1) k2 (l ++ M) V ⟨#[120]⟩) (hk : k1 + k2 = (M ++ V).length) :
    Calls Tryz.prog 21 #[.pointer (some ⟨E, 0, none⟩), .string ⟨#[120]⟩] w (MEnd base L w) := by
  have HH := Lib.hid h
  have HK := Lib.hid (And.intro hkey (And.intro hval hk))
  have HN := Lib.hid (And.intro hlv hn)
  have e0 := HH.out.ev.cell0
  have e4 : w.cell? ⟨E, 4, none⟩ = some (.slice none 0 0) := Whole.cell HH.out.ev 4
  have e6 : w.cell? ⟨E, 6, none⟩ = some (.pointer (some ⟨C, 0, none⟩)) := Whole.cell HH.out.ev 6
  have c15 := HH.out.cf.enc
  have c2 := HH.out.cf.msg
  have fE := Whole.frozen HH.out.ev 0
  have C112 := Lib.hid (hkey w.drew HH.out.bf)
  have hgE : g ≠ E := HH.out.bt.ne HH.out.ev.typed (by decide)
  have hgC : g ≠ C := HH.out.bt.ne HH.out.cf.typed (by decide)
  have hEl := HH.out.ev.typed.lt
  have hCl := HH.out.cf.typed.lt
  clear h hkey hval hk hlv hn
  go_enter Tryz.func21, Tryz.ntmps21
  go_wp2_with fail
  refine wp_loop_rounds 1 ?_
  rw [rounds_succ]
  go_upto_region 6 with fail
  refine wp_region_held_drew (S := (fun W => W.cell? ⟨E, 6, none⟩ = some (.pointer (some ⟨C, 0, none⟩)) ∧ W.cell? ⟨C, 15, none⟩ = some (.iface 58 (.agg #[])) ∧ W.cell? ⟨C, 2, none⟩ = some (.string ⟨#[109, 101, 115, 115, 97, 103, 101]⟩))) (by kernel_rfl) ?_ (fun hHeld => ?_)
  · exact ⟨e6, c15, c2⟩
  refine wpAnyH_take (i := 0) (v := ?_) rfl (by kernel_rfl) (by kernel_rfl) (by kernel_rfl) (fun _ _ _ h => h) (Or.inl ⟨by rfl, ?_⟩) (by assumption) ?_
  rotate_left
  focus (intro w hSw; (try dsimp only at hSw); go_simp; (try with_reducible rfl); done)
  try simp only [Act.put]
  refine wpAnyH_take (i := 1) (v := ?_) rfl (by kernel_rfl) (by kernel_rfl) (by kernel_rfl) (fun _ _ _ h => h) (Or.inl ⟨by rfl, ?_⟩) (by assumption) ?_
  rotate_left
  focus (intro w hSw; (try dsimp only at hSw); go_simp; (try with_reducible rfl); done)
  try simp only [Act.put]
  refine wpAnyH_take (i := 2) (v := ?_) rfl (by kernel_rfl) (by kernel_rfl) (by kernel_rfl) (fun _ _ _ h => h) (Or.inl ⟨by rfl, ?_⟩) (by assumption) ?_
  rotate_left
  focus (intro w hSw; (try dsimp only at hSw); go_simp; (try with_reducible rfl); done)
  try simp only [Act.put]
  refine wpAnyH_take (i := 3) (v := ?_) rfl (by kernel_rfl) (by kernel_rfl) (by kernel_rfl) (fun _ _ _ h => h) (Or.inl ⟨by rfl, ?_⟩) (by assumption) ?_
  rotate_left
  focus (intro w hSw; (try dsimp only at hSw); go_simp; (try with_reducible rfl); done)
  try simp only [Act.put]
  refine wpAnyH_take (i := 4) (v := ?_) rfl (by kernel_rfl) (by kernel_rfl) (by kernel_rfl) (fun _ _ _ h => h) (Or.inl ⟨by rfl, ?_⟩) (by assumption) ?_
  rotate_left
  focus (intro w hSw; (try dsimp only at hSw); go_simp; (try with_reducible rfl); done)
  try simp only [Act.put]
  refine wpAnyH_take (i := 5) (v := ?_) rfl (by kernel_rfl) (by kernel_rfl) (by kernel_rfl) (fun _ _ _ h => h) (Or.inl ⟨by rfl, ?_⟩) (by assumption) ?_
  rotate_left
  focus (intro w hSw; (try dsimp only at hSw); go_simp; (try with_reducible rfl); done)
  try simp only [Act.put]
  refine wpAnyH_take (i := 6) (v := ?_) rfl (by kernel_rfl) (by kernel_rfl) (by kernel_rfl) (fun _ _ _ h => h) (Or.inl ⟨by rfl, ?_⟩) (by assumption) ?_
  rotate_left
  focus (intro w hSw; (try dsimp only at hSw); go_simp; (try with_reducible rfl); done)
  try simp only [Act.put]
  refine wpAnyH_take (i := 7) (v := ?_) rfl (by kernel_rfl) (by kernel_rfl) (by kernel_rfl) (fun _ _ _ h => h) (Or.inl ⟨by rfl, ?_⟩) (by assumption) ?_
  rotate_left
  focus (intro w hSw; (try dsimp only at hSw); go_simp; (try with_reducible rfl); done)
  try simp only [Act.put]
  refine wpAnyH_take (i := 8) (v := ?_) rfl (by kernel_rfl) (by kernel_rfl) (by kernel_rfl) (fun _ _ _ h => h) (Or.inl ⟨by rfl, ?_⟩) (by assumption) ?_
  rotate_left
  focus (intro w hSw; (try dsimp only at hSw); go_simp; (try with_reducible rfl); done)
  try simp only [Act.put]
  refine wpAnyH_take (i := 9) (v := ?_) rfl (by kernel_rfl) (by kernel_rfl) (by kernel_rfl) (fun _ _ _ h => h) (Or.inl ⟨by rfl, ?_⟩) (by assumption) ?_
  rotate_left
  focus (intro w hSw; (try dsimp only at hSw); go_simp; (try with_reducible rfl); done)
  try simp only [Act.put]
  refine wpAnyH_take (i := 10) (v := ?_) rfl (by kernel_rfl) (by kernel_rfl) (by kernel_rfl) (fun _ _ _ h => h) (Or.inl ⟨by rfl, ?_⟩) (by assumption) ?_
  rotate_left
  focus (intro w hSw; (try dsimp only at hSw); go_simp; (try with_reducible rfl); done)
  try simp only [Act.put]
  refine wpAnyH_take (i := 11) (v := ?_) rfl (by kernel_rfl) (by kernel_rfl) (by kernel_rfl) (fun _ _ _ h => h) (Or.inl ⟨by rfl, ?_⟩) (by assumption) ?_
  rotate_left
  focus (intro w hSw; (try dsimp only at hSw); go_simp; (try with_reducible rfl); done)
  try simp only [Act.put]
  refine wpAnyH_take (i := 12) (v := ?_) rfl (by kernel_rfl) (by kernel_rfl) (by kernel_rfl) (fun _ _ _ h => h) (Or.inl ⟨by rfl, ?_⟩) (by assumption) ?_
  rotate_left
  focus (intro w hSw; (try dsimp only at hSw); go_simp; (try with_reducible rfl); done)
  try simp only [Act.put]
  refine wpAnyH_take (i := 13) (v := ?_) rfl (by kernel_rfl) (by kernel_rfl) (by kernel_rfl) (fun _ _ _ h => h) (Or.inl ⟨by rfl, ?_⟩) (by assumption) ?_
  rotate_left
  focus (intro w hSw; (try dsimp only at hSw); go_simp; (try with_reducible rfl); done)
  try simp only [Act.put]
  refine wpAnyH_take (i := 14) (v := ?_) rfl (by kernel_rfl) (by kernel_rfl) (by kernel_rfl) (fun _ _ _ h => h) (Or.inl ⟨by rfl, ?_⟩) (by assumption) ?_
  rotate_left
  focus (intro w hSw; (try dsimp only at hSw); go_simp; (try with_reducible rfl); done)
  try simp only [Act.put]
  refine wpAnyH_take (i := 15) (v := ?_) rfl (by kernel_rfl) (by kernel_rfl) (by kernel_rfl) (fun _ _ _ h => h) (Or.inl ⟨by rfl, ?_⟩) (by assumption) ?_
  rotate_left
  focus (intro w hSw; (try dsimp only at hSw); go_simp; (try with_reducible rfl); done)
  try simp only [Act.put]
  refine wpAnyH_take (i := 16) (v := ?_) rfl (by kernel_rfl) (by kernel_rfl) (by kernel_rfl) (fun _ _ _ h => h) (Or.inl ⟨by rfl, ?_⟩) (by assumption) ?_
  rotate_left
  focus (intro w hSw; (try dsimp only at hSw); go_simp; (try with_reducible rfl); done)
  try simp only [Act.put]
  refine wpAnyH_take (i := 17) (v := ?_) rfl (by kernel_rfl) (by kernel_rfl) (by kernel_rfl) (fun _ _ _ h => h) (Or.inl ⟨by rfl, ?_⟩) (by assumption) ?_
  rotate_left
  focus (intro w hSw; (try dsimp only at hSw); go_simp; (try with_reducible rfl); done)
  try simp only [Act.put]
  refine wpAnyH_take (i := 19) (v := ?_) rfl (by kernel_rfl) (by kernel_rfl) (by kernel_rfl) (fun _ _ _ h => h) (Or.inl ⟨by rfl, ?_⟩) (by assumption) ?_
  rotate_left
  focus (intro w hSw; (try dsimp only at hSw); go_simp; (try with_reducible rfl); done)
  try simp only [Act.put]
  refine wpAnyH_take (i := 20) (v := ?_) rfl (by kernel_rfl) (by kernel_rfl) (by kernel_rfl) (fun _ _ _ h => h) (Or.inl ⟨by rfl, ?_⟩) (by assumption) ?_
  rotate_left
  focus (intro w hSw; (try dsimp only at hSw); go_simp; (try with_reducible rfl); done)
  try simp only [Act.put]
  refine wpAnyH_take (i := 21) (v := ?_) rfl (by kernel_rfl) (by kernel_rfl) (by kernel_rfl) (fun _ _ _ h => h) (Or.inl ⟨by rfl, ?_⟩) (by assumption) ?_
  rotate_left
  focus (intro w hSw; (try dsimp only at hSw); go_simp; (try with_reducible rfl); done)
  try simp only [Act.put]
  refine wpAnyH_take (i := 22) (v := ?_) rfl (by kernel_rfl) (by kernel_rfl) (by kernel_rfl) (fun _ _ _ h => h) (Or.inl ⟨by rfl, ?_⟩) (by assumption) ?_
  rotate_left
  focus (intro w hSw; (try dsimp only at hSw); go_simp; (try with_reducible rfl); done)
  try simp only [Act.put]
  refine wpAnyH_take (i := 23) (v := ?_) rfl (by kernel_rfl) (by kernel_rfl) (by kernel_rfl) (fun _ _ _ h => h) (Or.inl ⟨by rfl, ?_⟩) (by assumption) ?_
  rotate_left
  focus (intro w hSw; (try dsimp only at hSw); go_simp; (try with_reducible rfl); done)
  try simp only [Act.put]
  refine wpAnyH_take (i := 24) (v := ?_) rfl (by kernel_rfl) (by kernel_rfl) (by kernel_rfl) (fun _ _ _ h => h) (Or.inl ⟨by rfl, ?_⟩) (by assumption) ?_
  rotate_left
  focus (intro w hSw; (try dsimp only at hSw); go_simp; (try with_reducible rfl); done)
  try simp only [Act.put]
  refine wpAnyH_take (i := 25) (v := ?_) rfl (by kernel_rfl) (by kernel_rfl) (by kernel_rfl) (fun _ _ _ h => h) (Or.inl ⟨by rfl, ?_⟩) (by assumption) ?_
  rotate_left
  focus (intro w hSw; (try dsimp only at hSw); go_simp; (try with_reducible rfl); done)
  try simp only [Act.put]
  refine wpAnyH_take (i := 26) (v := ?_) rfl (by kernel_rfl) (by kernel_rfl) (by kernel_rfl) (fun _ _ _ h => h) (Or.inl ⟨by rfl, ?_⟩) (by assumption) ?_
  rotate_left
  focus (intro w hSw; (try dsimp only at hSw); go_simp; (try with_reducible rfl); done)
  try simp only [Act.put]
  refine wpAnyH_take (i := 27) (v := ?_) rfl (by kernel_rfl) (by kernel_rfl) (by kernel_rfl) (fun _ _ _ h => h) (Or.inl ⟨by rfl, ?_⟩) (by assumption) ?_
  rotate_left
  focus (intro w hSw; (try dsimp only at hSw); go_simp; (try with_reducible rfl); done)
  try simp only [Act.put]
  refine wpAnyH_take (i := 29) (v := ?_) rfl (by kernel_rfl) (by kernel_rfl) (by kernel_rfl) (fun _ _ _ h => h) (Or.inl ⟨by rfl, ?_⟩) (by assumption) ?_
  rotate_left
  focus (intro w hSw; (try dsimp only at hSw); go_simp; (try with_reducible rfl); done)
  try simp only [Act.put]
  refine wpAnyH_take (i := 30) (v := ?_) rfl (by kernel_rfl) (by kernel_rfl) (by kernel_rfl) (fun _ _ _ h => h) (Or.inl ⟨by rfl, ?_⟩) (by assumption) ?_
  rotate_left
  focus (intro w hSw; (try dsimp only at hSw); go_simp; (try with_reducible rfl); done)
  try simp only [Act.put]
  refine wpAnyH_take (i := 31) (v := ?_) rfl (by kernel_rfl) (by kernel_rfl) (by kernel_rfl) (fun _ _ _ h => h) (Or.inl ⟨by rfl, ?_⟩) (by assumption) ?_
  rotate_left
  focus (intro w hSw; (try dsimp only at hSw); go_simp; (try with_reducible rfl); done)
  try simp only [Act.put]
  refine wpAnyH_ready (rs := [18]) (by kernel_rfl) (by simp) ?_
  refine AllReadyH.cons rfl (fun K hK => ?_) AllReadyH.nil
  go_simp
  refine hK.out _ _ ?_ (fun hHeld => ?_)
  · exact ⟨e6, c15, c2⟩
  clear hK K
  try simp only [Act.put]
  refine wpAnyH_ready (rs := [28]) (by kernel_rfl) (by simp) ?_
  refine AllReadyH.cons rfl (fun K hK => ?_) AllReadyH.nil
  (go_simp; rw [m112]; go_wp2_with ((go_at_call 112; refine C112.out.mono ?_; rintro e w1 ⟨rfl, hb1, hk1⟩; have C117 := Lib.hid (HK.out.2.1 w1 hb1); have hk1 := Lib.hid (Keeps.of_drew hk1); clear hb1; have e61 : w1.cell? ⟨E, 6, none⟩ = some (.pointer (some ⟨C, 0, none⟩)) := (hk1.out.cell hEl (fun e => hgE e.symm)).trans e6; have c151 : w1.cell? ⟨C, 15, none⟩ = some (.iface 58 (.agg #[])) := (hk1.out.cell hCl (fun e => hgC e.symm)).trans c15; have c21 := (hk1.out.cell (p := ⟨C, 2, none⟩) hCl (fun e => hgC e.symm)).trans c2)))
  refine hK.out _ _ ?_ (fun hHeld => ?_)
  · exact ⟨e61, c151, c21⟩
  clear hK K
  try simp only [Act.put]
  refine wpAnyH_ready (rs := [32]) (by kernel_rfl) (by simp) ?_
  refine AllReadyH.cons rfl (fun K hK => ?_) AllReadyH.nil
  (go_simp; rw [m117]; go_wp2_with ((go_at_call 117; refine C117.out.mono ?_; rintro e w2 ⟨rfl, hb2, hk2⟩; have hb2 := Lib.hid hb2; have hk2 := Lib.hid (hk1.out.trans hk2); have e62 : w2.cell? ⟨E, 6, none⟩ = some (.pointer (some ⟨C, 0, none⟩)) := (hk2.out.cell hEl (fun e => hgE e.symm)).trans e6; have c152 : w2.cell? ⟨C, 15, none⟩ = some (.iface 58 (.agg #[])) := (hk2.out.cell hCl (fun e => hgC e.symm)).trans c15; have c22 := (hk2.out.cell (p := ⟨C, 2, none⟩) hCl (fun e => hgC e.symm)).trans c2)))
  refine hK.out _ _ ?_ (fun hHeld => ?_)
  · exact ⟨e62, c152, c22⟩
  clear hK K
  try simp only [Act.put]
  refine wpAnyH_take (i := 33) (v := ?_) rfl (by kernel_rfl) (by kernel_rfl) (by kernel_rfl) (fun _ _ _ h => h) (Or.inl ⟨by rfl, ?_⟩) (by assumption) ?_
  rotate_left
  focus (intro w hSw; (try dsimp only at hSw); go_simp; (try with_reducible rfl); done)
  try simp only [Act.put]
  refine wpAnyH_take (i := 34) (v := ?_) rfl (by kernel_rfl) (by kernel_rfl) (by kernel_rfl) (fun _ _ _ h => h) (Or.inl ⟨by rfl, ?_⟩) (by assumption) ?_
  rotate_left
  focus (intro w hSw; (try dsimp only at hSw); go_simp; (try with_reducible rfl); done)
  try simp only [Act.put]
  refine wpAnyH_ready (rs := [35]) (by kernel_rfl) (by simp) ?_
  refine AllReadyH.cons rfl (fun K hK => ?_) AllReadyH.nil
  (have e02 := (hk2.out.cell hEl (fun e => hgE e.symm)).trans e0; have fE2 : w2.frozen? ⟨E, 0, none⟩ = false := (hk2.out.frozen hEl (fun e => hgE e.symm)).trans fE; have y1 := Lib.hid (HH.out.buf (m := M ++ V) hk2.out (by rw [← List.append_assoc]; exact hb2.out) (n + k1 + k2) (by rw [← HK.out.2.2]; omega)); have b1 := Lib.hid (HH.out.below hbase hk2.out (.slice (some ⟨g, 0, none⟩) (n + k1 + k2) 500)); have e63 := Whole.cell y1.out.ev 6; have c153 := y1.out.cf.enc; have c23 := y1.out.cf.msg; go_simp)
  refine hK.out _ _ ?_ (fun hHeld => ?_)
  · exact ⟨e63, c153, c23⟩
  clear hK K
  try simp only [Act.put]
  refine wpAnyH_done (by kernel_rfl) ?_ _
  generalize w2.setCell ⟨E, 0, none⟩ (.slice (some ⟨g, 0, none⟩) (n + k1 + k2) 500) = W at y1 b1 ⊢
  clear HH e0 e6 c15 fE C112 C117 e61 c151 e62 c152 e02 fE2 hb2 hk1 hk2
  have C27 := Lib.hid (write_walk base E g (n + k1 + k2) lv C L gl _ W y1.out HN.out.1 HN.out.2 (Nat.le_trans hbase b1.out.size))
  go_wp2_with ((go_at_call 27; refine C27.out.mono ?_; rintro e w3 ⟨rfl, h3, b3⟩; have h3 := Lib.hid (And.intro h3 b3); clear b3))
  go_returns
  exact ⟨rfl, h3.out.1, b1.out.trans h3.out.2⟩
#print axioms msg_walk

set_option maxRecDepth 100000 in
/-- A nil event is not written. -/
theorem Msg_nil (w : World) : Calls Tryz.prog 11 #[.pointer none, .string ⟨#[120]⟩] w fun e w' => e = .returned (.tuple #[]) ∧ w = w' := by
  go_enter Tryz.func11, Tryz.ntmps11
  go_wp2_with fail
  go_returns
  exact ⟨rfl, rfl⟩
set_option maxRecDepth 100000 in
theorem Msg_walk (E : Nat) (w : World) (P : Ending → World → Prop) (hP : ∀ e w', P e w' → e = .returned (.tuple #[])) (c : Calls Tryz.prog 21 #[.pointer (some ⟨E, 0, none⟩), .string ⟨#[120]⟩] w P) :
    Calls Tryz.prog 11 #[.pointer (some ⟨E, 0, none⟩), .string ⟨#[120]⟩] w P := by
  have C21 := Lib.hid c
  have HP := Lib.hid hP
  clear c hP
  go_enter Tryz.func11, Tryz.ntmps11
  go_wp2_with ((go_at_call 21; refine C21.out.mono ?_; rintro e w1 he; obtain rfl := HP.out _ _ he; have he := Lib.hid he))
  go_returns
  exact he.out
end Go.Proofs.YtpenbgiobeebiaaGreatDoor
