/- A writer that holds lines back: bytes.Buffer's WriteByte, walked. -/
import Derived.Test.YtiboiagimcgjkaaDoorTriA
namespace Go.Proofs.YtiboiagimcgjkaaDoor
open Go.RowKit

theorem take_set (l : List Value) (n : Nat) (v : Value) (h : n < l.length) : (l.set n v).take (n + 1) = l.take n ++ [v] := by
  rw [List.take_succ_eq_append_getElem (by simpa using h)]
  simp [List.take_set_of_le]
theorem byte_end {w w1 : World} {B b g g1 l cap : Nat} {cur : Array Value} {bs : List Value} (h : BufRow w1 B b g1 (l + 1) cap cur) (ht : cur.toList.take l = bs) (hc : cap ≤ maxLen) (k : Keeps (fun k => k = b ∨ k = g) w w1) (hg : g1 = g ∨ w.heap.size ≤ g1) (v : Value) : ByteEnd w B b g l bs v (w1.setCell ⟨g1, l, none⟩ v) := by
  refine ⟨g1, cap, _, h.poke l v, ?_, hc, k.set (p := ⟨g1, l, none⟩) ?_ v⟩
  · rw [Array.toList_setIfInBounds, take_set _ _ _ (by rw [Array.length_toList, h.sz]; exact h.le), ht]
  · rcases hg with hg | hg
    · exact .inl (.inr hg)
    · exact .inr hg

set_option maxRecDepth 100000 in
set_option maxHeartbeats 4000000 in
theorem write_byte (B b g l cap : Nat) (cur : Array Value) (bs : List Value) (c : Int) (w : World) (h : BufRow w B b g l cap cur) (ht : cur.toList.take l = bs) (hc : cap ≤ maxLen) (hl : l ≤ 1000000) (h0 : 0 < l ∨ l < cap) (hBw : B ≤ w.heap.size) (h1 : ∀ v ∈ bs, v.oneCell' = true) :
    Calls Tryd.prog 27 #[.pointer (some ⟨b, 0, none⟩), .int .u8 c] w fun e w' => e = .returned .nilIface ∧ ByteEnd w B b g l bs (.int .u8 c) w' := by
  obtain ⟨lr, hb⟩ := h.blk
  have c2 := hb.cell 2
  have f2 := hb.frozen 2
  have h' := h.setLast 0
  have hle := h.le
  have hk0 : Keeps (fun k => k = b ∨ k = g) w (w.setCell ⟨b, 2, none⟩ (.int .i8 0)) := (Keeps.refl _ w).set (p := ⟨b, 2, none⟩) (.inl (.inl rfl)) _
  have hsz0 : (w.setCell ⟨b, 2, none⟩ (.int .i8 0)).heap.size = w.heap.size := by simp [World.setCell]
  have hcm := hc
  unfold maxLen at hcm
  have HT := Lib.hid ht
  have H1 := Lib.hid h1
  have HSZ := Lib.hid hsz0
  by_cases hr : l < cap
  · obtain ⟨lr', hb'⟩ := h'.blk
    have cT := Tryd.Buffer_tryGrow_room b _ l cap 1 _ (hb'.cell 0) (hb'.frozen 0) (by omega) hc (by omega)
    have h2 := h'.room (by omega)
    have hk2 := hk0.set (p := ⟨b, 0, none⟩) (.inl (.inl rfl)) (.slice (some ⟨g, 0, none⟩) (l + 1) cap)
    have CT := Lib.hid cT
    have H2 := Lib.hid (And.intro h2 hk2)
    clear h hb h' ht h1 hk0 hb' cT h2 hk2 hsz0
    have hlc : l < cur.size := by rw [H2.out.1.sz]; exact hr
    go_enter Tryd.func27, Tryd.ntmps27
    go_wp2_with (go_at_call 36; refine CT.out.mono ?_; rintro e W1 ⟨rfl, hw⟩; have HW := Lib.hid (show BufRow W1 B b g (l + 1) cap cur ∧ Keeps (fun k => k = b ∨ k = g) w W1 by rw [hw]; exact H2.out); clear hw; obtain ⟨lr2, hb2⟩ := HW.out.1.blk; have d0 : W1.cell? ⟨b, 0, none⟩ = some (.slice (some ⟨g, 0, none⟩) (l + 1) cap) := hb2.cell 0; clear hb2; have hx : W1.cell? ⟨g, l, none⟩ = some cur[l] := (by rw [HW.out.1.row.cell l]; exact Array.getElem?_eq_getElem hlc); have fx := HW.out.1.row.frozen l)
    go_ret
    exact ⟨rfl, byte_end HW.out.1 HT.out hc HW.out.2 (.inl rfl) _⟩
  · obtain rfl : l = cap := by omega
    obtain ⟨lr', hb'⟩ := h'.blk
    have cT := Tryd.Buffer_tryGrow_none b _ l l 1 _ (hb'.cell 0) (by omega) hc (by omega)
    have cG := grow_one B b g l cur _ h' (by omega) hl (by rw [hsz0]; exact hBw) (by rw [ht]; exact h1)
    have CT := Lib.hid (And.intro cT cG)
    have HK := Lib.hid hk0
    clear h hb h' ht h1 hk0 hb' cT cG hsz0
    go_enter Tryd.func27, Tryd.ntmps27
    go_wp2_with (first
      | (go_at_call 36; refine CT.out.1.mono ?_; rintro e W1 ⟨rfl, rfl⟩)
      | (go_at_call 37; go_loud (refine CT.out.2.mono ?_); rintro e W1 ⟨rfl, cap2, cells, hr1, htk, hcm2, hk1⟩; have HW := Lib.hid (And.intro hr1 (And.intro htk (And.intro hcm2 hk1))); clear htk hk1; obtain ⟨lr2, hb2⟩ := hr1.blk; have hle2 := hr1.le; have hlc : l < cells.size := (by rw [hr1.sz]; exact hle2); have d0 := hb2.cell 0; clear hb2; rw [HSZ.out] at d0; have d0 : W1.cell? ⟨b, 0, none⟩ = some (.slice (some ⟨w.heap.size, 0, none⟩) (l + 1) cap2) := d0; have hx : W1.cell? ⟨w.heap.size, l, none⟩ = some cells[l] := (by have := hr1.row.cell l; rw [HSZ.out] at this; rw [this]; exact Array.getElem?_eq_getElem hlc); have fx : W1.frozen? ⟨w.heap.size, l, none⟩ = false := (by have := hr1.row.frozen l; rw [HSZ.out] at this; exact this); clear hr1; unfold maxLen at hcm2))
    go_ret
    have hr1 := HW.out.1
    rw [HSZ.out] at hr1
    exact ⟨rfl, byte_end hr1 (HW.out.2.1.trans HT.out) HW.out.2.2.1 (HK.out.trans (HW.out.2.2.2.mono fun k hk => .inl hk)) (.inr (Nat.le_refl _)) _⟩
end Go.Proofs.YtiboiagimcgjkaaDoor
