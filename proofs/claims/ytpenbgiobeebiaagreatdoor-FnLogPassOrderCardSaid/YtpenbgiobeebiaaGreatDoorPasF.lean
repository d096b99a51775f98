/- A key and a text are written. -/
import Derived.Test.YtpenbgiobeebiaaGreatDoorPasE
namespace Go.Proofs.YtpenbgiobeebiaaGreatDoor
open Go.RowKit

/-- An append's contract, its length named. -/
def Adds (f g n k : Nat) (l M : List UInt8) (t : ByteArray) : Prop := ∀ W, Buf W g l → Calls Tryz.prog f #[.agg #[], .slice (some ⟨g, 0, none⟩) n 500, .string t] W fun e w' => e = .returned (.slice (some ⟨g, 0, none⟩) (n + k) 500) ∧ Buf w' g (l ++ M) ∧ Keeps (fun k => k = g) W w'

set_option maxRecDepth 100000 in
set_option maxHeartbeats 8000000 in
theorem str_walk (base E g n k1 k2 : Nat) (lv : Int) (C L : Nat) (gl : Int) (l M V : List UInt8) (key val : ByteArray) (w : World) (h : Sys w base E g n lv C L gl l)
    (hkey : Adds 112 g n k1 l M key) (hval : Adds 117 g (n + k1) k2 (l ++ M) V val) (hk : k1 + k2 = (M ++ V).length) :
    Calls Tryz.prog 26 #[.pointer (some ⟨E, 0, none⟩), .string key, .string val] w fun e w' => e = .returned (.pointer (some ⟨E, 0, none⟩)) ∧ Sys w' base E g (n + k1 + k2) lv C L gl (l ++ (M ++ V)) ∧ Keeps (fun k => k = g ∨ k = E) w w' := by
  have HH := Lib.hid h
  have HK := Lib.hid (And.intro hkey (And.intro hval hk))
  have e0 := HH.out.ev.cell0
  have e6 : w.cell? ⟨E, 6, none⟩ = some (.pointer (some ⟨C, 0, none⟩)) := Whole.cell HH.out.ev 6
  have c15 := HH.out.cf.enc
  have fE := Whole.frozen HH.out.ev 0
  have C112 := Lib.hid (hkey w.drew HH.out.bf)
  have hgE : g ≠ E := HH.out.bt.ne HH.out.ev.typed (by decide)
  have hgC : g ≠ C := HH.out.bt.ne HH.out.cf.typed (by decide)
  have hEl := HH.out.ev.typed.lt
  have hCl := HH.out.cf.typed.lt
  clear h hkey hval hk
  go_enter Tryz.func26, Tryz.ntmps26
  go_upto_region 3 with fail
  refine wp_region_held_drew (S := (fun W => W.cell? ⟨E, 6, none⟩ = some (.pointer (some ⟨C, 0, none⟩)) ∧ W.cell? ⟨C, 15, none⟩ = some (.iface 58 (.agg #[])))) (by kernel_rfl) ?_ (fun hHeld => ?_)
  · exact ⟨e6, c15⟩
  refine wpAnyH_take (i := 0) (v := ?_) rfl (by kernel_rfl) (by kernel_rfl) (by kernel_rfl) (fun _ _ _ h => h) (Or.inl ⟨by rfl, ?_⟩) (by assumption) ?_
  rotate_left
  focus (intro w hSw; (try dsimp only at hSw); go_simp; (try with_reducible rfl); done)
  try simp only [Act.put]
  refine wpAnyH_take (i := 1) (v := ?_) rfl (by kernel_rfl) (by kernel_rfl) (by kernel_rfl) (fun _ _ _ h => h) (Or.inl ⟨by rfl, ?_⟩) (by assumption) ?_
  rotate_left
  focus (intro w hSw; (try dsimp only at hSw); go_simp; (try with_reducible rfl); done)
  try simp only [Act.put]
  refine wpAnyH_take (i := 2) (v := ?_) rfl (by kernel_rfl) (by kernel_rfl) (by kernel_rfl) (fun _ _ _ h => h) (Or.inl ⟨by rfl, ?_⟩) (by assumption) ?_
  rotate_left
  focus (intro w hSw; (try dsimp only at hSw); go_simp; (try with_reducible rfl); done)
  try simp only [Act.put]
  refine wpAnyH_take (i := 3) (v := ?_) rfl (by kernel_rfl) (by kernel_rfl) (by kernel_rfl) (fun _ _ _ h => h) (Or.inl ⟨by rfl, ?_⟩) (by assumption) ?_
  rotate_left
  focus (intro w hSw; (try dsimp only at hSw); go_simp; (try with_reducible rfl); done)
  try simp only [Act.put]
  refine wpAnyH_take (i := 4) (v := ?_) rfl (by kernel_rfl) (by kernel_rfl) (by kernel_rfl) (fun _ _ _ h => h) (Or.inl ⟨by rfl, ?_⟩) (by assumption) ?_
  rotate_left
  focus (intro w hSw; (try dsimp only at hSw); go_simp; (try with_reducible rfl); done)
  try simp only [Act.put]
  refine wpAnyH_take (i := 5) (v := ?_) rfl (by kernel_rfl) (by kernel_rfl) (by kernel_rfl) (fun _ _ _ h => h) (Or.inl ⟨by rfl, ?_⟩) (by assumption) ?_
  rotate_left
  focus (intro w hSw; (try dsimp only at hSw); go_simp; (try with_reducible rfl); done)
  try simp only [Act.put]
  refine wpAnyH_take (i := 6) (v := ?_) rfl (by kernel_rfl) (by kernel_rfl) (by kernel_rfl) (fun _ _ _ h => h) (Or.inl ⟨by rfl, ?_⟩) (by assumption) ?_
  rotate_left
  focus (intro w hSw; (try dsimp only at hSw); go_simp; (try with_reducible rfl); done)
  try simp only [Act.put]
  refine wpAnyH_take (i := 7) (v := ?_) rfl (by kernel_rfl) (by kernel_rfl) (by kernel_rfl) (fun _ _ _ h => h) (Or.inl ⟨by rfl, ?_⟩) (by assumption) ?_
  rotate_left
  focus (intro w hSw; (try dsimp only at hSw); go_simp; (try with_reducible rfl); done)
  try simp only [Act.put]
  refine wpAnyH_take (i := 8) (v := ?_) rfl (by kernel_rfl) (by kernel_rfl) (by kernel_rfl) (fun _ _ _ h => h) (Or.inl ⟨by rfl, ?_⟩) (by assumption) ?_
  rotate_left
  focus (intro w hSw; (try dsimp only at hSw); go_simp; (try with_reducible rfl); done)
  try simp only [Act.put]
  refine wpAnyH_take (i := 9) (v := ?_) rfl (by kernel_rfl) (by kernel_rfl) (by kernel_rfl) (fun _ _ _ h => h) (Or.inl ⟨by rfl, ?_⟩) (by assumption) ?_
  rotate_left
  focus (intro w hSw; (try dsimp only at hSw); go_simp; (try with_reducible rfl); done)
  try simp only [Act.put]
  refine wpAnyH_take (i := 10) (v := ?_) rfl (by kernel_rfl) (by kernel_rfl) (by kernel_rfl) (fun _ _ _ h => h) (Or.inl ⟨by rfl, ?_⟩) (by assumption) ?_
  rotate_left
  focus (intro w hSw; (try dsimp only at hSw); go_simp; (try with_reducible rfl); done)
  try simp only [Act.put]
  refine wpAnyH_take (i := 11) (v := ?_) rfl (by kernel_rfl) (by kernel_rfl) (by kernel_rfl) (fun _ _ _ h => h) (Or.inl ⟨by rfl, ?_⟩) (by assumption) ?_
  rotate_left
  focus (intro w hSw; (try dsimp only at hSw); go_simp; (try with_reducible rfl); done)
  try simp only [Act.put]
  refine wpAnyH_take (i := 12) (v := ?_) rfl (by kernel_rfl) (by kernel_rfl) (by kernel_rfl) (fun _ _ _ h => h) (Or.inl ⟨by rfl, ?_⟩) (by assumption) ?_
  rotate_left
  focus (intro w hSw; (try dsimp only at hSw); go_simp; (try with_reducible rfl); done)
  try simp only [Act.put]
  refine wpAnyH_take (i := 13) (v := ?_) rfl (by kernel_rfl) (by kernel_rfl) (by kernel_rfl) (fun _ _ _ h => h) (Or.inl ⟨by rfl, ?_⟩) (by assumption) ?_
  rotate_left
  focus (intro w hSw; (try dsimp only at hSw); go_simp; (try with_reducible rfl); done)
  try simp only [Act.put]
  refine wpAnyH_take (i := 14) (v := ?_) rfl (by kernel_rfl) (by kernel_rfl) (by kernel_rfl) (fun _ _ _ h => h) (Or.inl ⟨by rfl, ?_⟩) (by assumption) ?_
  rotate_left
  focus (intro w hSw; (try dsimp only at hSw); go_simp; (try with_reducible rfl); done)
  try simp only [Act.put]
  refine wpAnyH_take (i := 15) (v := ?_) rfl (by kernel_rfl) (by kernel_rfl) (by kernel_rfl) (fun _ _ _ h => h) (Or.inl ⟨by rfl, ?_⟩) (by assumption) ?_
  rotate_left
  focus (intro w hSw; (try dsimp only at hSw); go_simp; (try with_reducible rfl); done)
  try simp only [Act.put]
  refine wpAnyH_take (i := 16) (v := ?_) rfl (by kernel_rfl) (by kernel_rfl) (by kernel_rfl) (fun _ _ _ h => h) (Or.inl ⟨by rfl, ?_⟩) (by assumption) ?_
  rotate_left
  focus (intro w hSw; (try dsimp only at hSw); go_simp; (try with_reducible rfl); done)
  try simp only [Act.put]
  refine wpAnyH_take (i := 17) (v := ?_) rfl (by kernel_rfl) (by kernel_rfl) (by kernel_rfl) (fun _ _ _ h => h) (Or.inl ⟨by rfl, ?_⟩) (by assumption) ?_
  rotate_left
  focus (intro w hSw; (try dsimp only at hSw); go_simp; (try with_reducible rfl); done)
  try simp only [Act.put]
  refine wpAnyH_take (i := 19) (v := ?_) rfl (by kernel_rfl) (by kernel_rfl) (by kernel_rfl) (fun _ _ _ h => h) (Or.inl ⟨by rfl, ?_⟩) (by assumption) ?_
  rotate_left
  focus (intro w hSw; (try dsimp only at hSw); go_simp; (try with_reducible rfl); done)
  try simp only [Act.put]
  refine wpAnyH_take (i := 20) (v := ?_) rfl (by kernel_rfl) (by kernel_rfl) (by kernel_rfl) (fun _ _ _ h => h) (Or.inl ⟨by rfl, ?_⟩) (by assumption) ?_
  rotate_left
  focus (intro w hSw; (try dsimp only at hSw); go_simp; (try with_reducible rfl); done)
  try simp only [Act.put]
  refine wpAnyH_take (i := 21) (v := ?_) rfl (by kernel_rfl) (by kernel_rfl) (by kernel_rfl) (fun _ _ _ h => h) (Or.inl ⟨by rfl, ?_⟩) (by assumption) ?_
  rotate_left
  focus (intro w hSw; (try dsimp only at hSw); go_simp; (try with_reducible rfl); done)
  try simp only [Act.put]
  refine wpAnyH_take (i := 23) (v := ?_) rfl (by kernel_rfl) (by kernel_rfl) (by kernel_rfl) (fun _ _ _ h => h) (Or.inl ⟨by rfl, ?_⟩) (by assumption) ?_
  rotate_left
  focus (intro w hSw; (try dsimp only at hSw); go_simp; (try with_reducible rfl); done)
  try simp only [Act.put]
  refine wpAnyH_take (i := 24) (v := ?_) rfl (by kernel_rfl) (by kernel_rfl) (by kernel_rfl) (fun _ _ _ h => h) (Or.inl ⟨by rfl, ?_⟩) (by assumption) ?_
  rotate_left
  focus (intro w hSw; (try dsimp only at hSw); go_simp; (try with_reducible rfl); done)
  try simp only [Act.put]
  refine wpAnyH_take (i := 25) (v := ?_) rfl (by kernel_rfl) (by kernel_rfl) (by kernel_rfl) (fun _ _ _ h => h) (Or.inl ⟨by rfl, ?_⟩) (by assumption) ?_
  rotate_left
  focus (intro w hSw; (try dsimp only at hSw); go_simp; (try with_reducible rfl); done)
  try simp only [Act.put]
  refine wpAnyH_ready (rs := [18]) (by kernel_rfl) (by simp) ?_
  refine AllReadyH.cons rfl (fun K hK => ?_) AllReadyH.nil
  go_simp
  refine hK.out _ _ ?_ (fun hHeld => ?_)
  · exact ⟨e6, c15⟩
  clear hK K
  try simp only [Act.put]
  refine wpAnyH_ready (rs := [22]) (by kernel_rfl) (by simp) ?_
  refine AllReadyH.cons rfl (fun K hK => ?_) AllReadyH.nil
  (go_simp; rw [m112]; go_wp2_with ((go_at_call 112; refine C112.out.mono ?_; rintro e w1 ⟨rfl, hb1, hk1⟩; have C117 := Lib.hid (HK.out.2.1 w1 hb1); have hk1 := Lib.hid (Keeps.of_drew hk1); clear hb1; have e61 : w1.cell? ⟨E, 6, none⟩ = some (.pointer (some ⟨C, 0, none⟩)) := (hk1.out.cell hEl (fun e => hgE e.symm)).trans e6; have c151 : w1.cell? ⟨C, 15, none⟩ = some (.iface 58 (.agg #[])) := (hk1.out.cell hCl (fun e => hgC e.symm)).trans c15)))
  refine hK.out _ _ ?_ (fun hHeld => ?_)
  · exact ⟨e61, c151⟩
  clear hK K
  try simp only [Act.put]
  refine wpAnyH_ready (rs := [26]) (by kernel_rfl) (by simp) ?_
  refine AllReadyH.cons rfl (fun K hK => ?_) AllReadyH.nil
  (go_simp; rw [m117]; go_wp2_with ((go_at_call 117; refine C117.out.mono ?_; rintro e w2 ⟨rfl, hb2, hk2⟩; have hb2 := Lib.hid hb2; have hk2 := Lib.hid (hk1.out.trans hk2); have e62 : w2.cell? ⟨E, 6, none⟩ = some (.pointer (some ⟨C, 0, none⟩)) := (hk2.out.cell hEl (fun e => hgE e.symm)).trans e6; have c152 : w2.cell? ⟨C, 15, none⟩ = some (.iface 58 (.agg #[])) := (hk2.out.cell hCl (fun e => hgC e.symm)).trans c15)))
  refine hK.out _ _ ?_ (fun hHeld => ?_)
  · exact ⟨e62, c152⟩
  clear hK K
  try simp only [Act.put]
  refine wpAnyH_take (i := 27) (v := ?_) rfl (by kernel_rfl) (by kernel_rfl) (by kernel_rfl) (fun _ _ _ h => h) (Or.inl ⟨by rfl, ?_⟩) (by assumption) ?_
  rotate_left
  focus (intro w hSw; (try dsimp only at hSw); go_simp; (try with_reducible rfl); done)
  try simp only [Act.put]
  refine wpAnyH_take (i := 28) (v := ?_) rfl (by kernel_rfl) (by kernel_rfl) (by kernel_rfl) (fun _ _ _ h => h) (Or.inl ⟨by rfl, ?_⟩) (by assumption) ?_
  rotate_left
  focus (intro w hSw; (try dsimp only at hSw); go_simp; (try with_reducible rfl); done)
  try simp only [Act.put]
  refine wpAnyH_ready (rs := [29]) (by kernel_rfl) (by simp) ?_
  refine AllReadyH.cons rfl (fun K hK => ?_) AllReadyH.nil
  (have e02 := (hk2.out.cell hEl (fun e => hgE e.symm)).trans e0; have fE2 : w2.frozen? ⟨E, 0, none⟩ = false := (hk2.out.frozen hEl (fun e => hgE e.symm)).trans fE; have y1 := Lib.hid (HH.out.buf (m := M ++ V) hk2.out (by rw [← List.append_assoc]; exact hb2.out) (n + k1 + k2) (by rw [← HK.out.2.2]; omega)); have b1 := Lib.hid ((hk2.out.mono (T := fun k => k = g ∨ k = E) fun _ h => .inl h).set (p := ⟨E, 0, none⟩) (.inl (.inr rfl)) (.slice (some ⟨g, 0, none⟩) (n + k1 + k2) 500)); have e63 := Whole.cell y1.out.ev 6; have c153 := y1.out.cf.enc; go_simp)
  refine hK.out _ _ ?_ (fun hHeld => ?_)
  · exact ⟨e63, c153⟩
  clear hK K
  try simp only [Act.put]
  refine wpAnyH_done (by kernel_rfl) ?_ _
  generalize w2.setCell ⟨E, 0, none⟩ (.slice (some ⟨g, 0, none⟩) (n + k1 + k2) 500) = W at y1 b1 ⊢
  clear HH e0 e6 c15 fE C112 C117 e61 c151 e62 c152 e02 fE2 hb2 hk1 hk2
  go_wp2_with fail
  go_returns
  exact ⟨rfl, y1.out, b1.out⟩
#print axioms str_walk
end Go.Proofs.YtpenbgiobeebiaaGreatDoor
