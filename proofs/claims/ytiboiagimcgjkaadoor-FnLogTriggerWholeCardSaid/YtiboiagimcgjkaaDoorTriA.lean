/- A writer that holds lines back: bytes.Buffer's WriteByte, with a frame that names the rows. -/
import Derived.Test.YtiboiagimcgjkaaDoorShelfB
import Derived.Test.YtiboiagimcgjkaaDoorMulL
import Derived.Deep.RegionHeld3
namespace Go.Proofs.YtiboiagimcgjkaaDoor
open Go.RowKit

/-- A buffer whose row is known. -/
structure BufRow (w : World) (B b g l cap : Nat) (cur : Array Value) : Prop where
  hB : B ≤ b
  hBg : B ≤ g
  ne : g ≠ b
  blk : ∃ lr, Whole w b 86 #[.slice (some ⟨g, 0, none⟩) l cap, .int .i64 0, .int .i8 lr]
  row : Whole w g 5 cur
  sz : cur.size = cap
  le : l ≤ cap
theorem BufRow.isBuffer {w : World} {B b g l cap : Nat} {cur : Array Value} (h : BufRow w B b g l cap cur) (hc : cap ≤ maxLen) : Lib.IsBuffer 86 5 B b (cur.toList.take l) w := by
  obtain ⟨lr, hb⟩ := h.blk
  have hl : (cur.toList.take l).length = l := by
    rw [List.length_take, Array.length_toList, h.sz]
    exact Nat.min_eq_left h.le
  exact ⟨h.hB, _, lr, hb, ⟨by rw [hl]; omega, .inr ⟨g, cap, cur, by rw [hl], h.hBg, h.row, by rw [hl]; exact h.le, hc, by rw [h.sz]; omega, by rw [hl, Nat.mul_one]⟩⟩, fun e => h.ne (by injection e)⟩

theorem grown_row {w w0 w2 : World} {B b l cap2 n : Nat} {v v1 : Value} {lr : Int} {cells : Array Value} (hB : B ≤ b) (hBw : B ≤ w.heap.size) (hbl : b < w.heap.size) (hsz : w0.heap.size = w.heap.size) (hk0 : Keeps (fun k => k = b) w w0) (hbel : Below w0.heap.size w0 w2)
    (hb : Whole w2 b 86 #[v, .int .i64 0, .int .i8 lr]) (hN : w2.heap[w0.heap.size]? = some (.cells cells 5 (0, 0))) (hsz2 : cells.size = cap2) (hl : l + 1 ≤ cap2) (hn : w0.heap.size = n) :
    BufRow (((w2.setCell ⟨b, 0, none⟩ v1).setCell ⟨b, 1, none⟩ (.int .i64 0)).setCell ⟨b, 0, none⟩ (.slice (some ⟨n, 0, none⟩) (l + 1) cap2)) B b w.heap.size (l + 1) cap2 cells ∧ Keeps (fun k => k = b) w (((w2.setCell ⟨b, 0, none⟩ v1).setCell ⟨b, 1, none⟩ (.int .i64 0)).setCell ⟨b, 0, none⟩ (.slice (some ⟨n, 0, none⟩) (l + 1) cap2)) := by
  subst hn
  have hr : Whole w2 w0.heap.size 5 cells := hN
  have hne : w0.heap.size ≠ b := by omega
  refine ⟨⟨hB, hBw, by omega, ⟨lr, ?_⟩, ?_, hsz2, hl⟩, ?_⟩
  · rw [hsz]
    exact ((hb.set 0 _).set 1 _).set 0 _
  · rw [← hsz]
    exact ((hr.far hne _).far hne _).far hne _
  · have k2 : Keeps (fun k => k = b) w w2 := hk0.trans (Keeps.of_below hbel _)
    exact ((k2.set (p := ⟨b, 0, none⟩) (.inl rfl) _).set (p := ⟨b, 1, none⟩) (.inl rfl) _).set (p := ⟨b, 0, none⟩) (.inl rfl) _

set_option maxRecDepth 100000 in
set_option maxHeartbeats 4000000 in
theorem grow_one (B b g l : Nat) (cur : Array Value) (w : World) (h : BufRow w B b g l l cur) (h0 : 0 < l) (hl : l ≤ 1000000) (hBw : B ≤ w.heap.size) (h1 : ∀ v ∈ cur.toList.take l, v.oneCell' = true) :
    Calls Tryd.prog 37 #[.pointer (some ⟨b, 0, none⟩), .int .i64 1] w fun e w' => e = .returned (.int .i64 l) ∧ ∃ cap2 cells, BufRow w' B b w.heap.size (l + 1) cap2 cells ∧ cells.toList.take l = cur.toList.take l ∧ cap2 ≤ maxLen ∧ Keeps (fun k => k = b) w w' := by
  have hI := h.isBuffer (by unfold maxLen; omega)
  have hlen : (cur.toList.take l).length = l := by
    rw [List.length_take, Array.length_toList, h.sz]
    exact Nat.min_eq_left h.le
  have cL := Tryd.Buffer_Len B b _ w hI
  rw [hlen] at cL
  obtain ⟨lr, hb⟩ := h.blk
  have hnil : ∀ W, (binOp .eql 59 (.slice (some ⟨g, 0, none⟩) l l) (.slice none 0 0)).run Tryd.prog W = .ok (.bool false) W := fun W => Lib.run_eql_slice_some_nil W _ _ _ Tryd.underlying59
  have HH := Lib.hid h
  have HB := Lib.hid hb
  have H1 := Lib.hid h1
  have CL := Lib.hid cL
  clear hI hlen cL h hb h1
  go_enter Tryd.func37, Tryd.ntmps37
  go_wp2_with (go_at_call 43; refine CL.out.mono ?_; rintro e W0 ⟨rfl, k, hW0⟩; have HW0 := Lib.hid hW0; have c0 : W0.cell? ⟨b, 0, none⟩ = some (.slice (some ⟨g, 0, none⟩) l l) := (by rw [hW0]; exact HB.out.cell 0); have c1 : W0.cell? ⟨b, 1, none⟩ = some (.int .i64 0) := (by rw [hW0]; exact HB.out.cell 1); have f0 : W0.frozen? ⟨b, 0, none⟩ = false := (by rw [hW0]; exact HB.out.frozen 0); have f1 : W0.frozen? ⟨b, 1, none⟩ = false := (by rw [hW0]; exact HB.out.frozen 1); clear hW0)
  go_wp2_with (go_at_call 36; refine (Tryd.Buffer_tryGrow_none b _ l l 1 _ c0 (Nat.le_refl _) (by unfold maxLen; omega) (by omega)).mono ?_; rintro e w' ⟨rfl, rfl⟩)
  have hgrow : ∀ W : World, Whole W g 5 cur → _ := fun W hW => Tryd.bytes_growSlice_row g l l 1 cur W hW HH.out.sz (Nat.le_refl _) (by omega) (by omega) (by omega) H1.out
  have hsz0 : w'.heap.size = w.heap.size := by rw [HW0.out]; rfl
  have hb0 : Whole w'.drew b 86 #[.slice (some ⟨g, 0, none⟩) l l, .int .i64 0, .int .i8 lr] := by rw [HW0.out]; exact HB.out
  have hg0 : Whole w'.drew g 5 cur := by rw [HW0.out]; exact HH.out.row
  have hk0 : Keeps (fun k => k = b) w w'.drew := by rw [HW0.out]; exact (((Keeps.refl _ w).drewN _).drew)
  have hbl : b < w'.heap.size := by rw [hsz0]; exact HB.out.lt
  have HG := Lib.hid (And.intro (hgrow _ hg0) (And.intro hsz0 (And.intro hb0 hk0)))
  clear hgrow hsz0 hb0 hg0 hk0
  go_region_with ((go_at_call 45; refine HG.out.1.mono ?_; rintro e w2 ⟨cap2, cells, rfl, hN, hcsz, htk, hcap2, hcm2, hbel⟩; have hb2 : Whole w2 b 86 #[.slice (some ⟨g, 0, none⟩) l l, .int .i64 0, .int .i8 lr] := HG.out.2.2.1.below hbel hbl; have d0 := hb2.cell 0; have d1 := hb2.cell 1; have f20 := hb2.frozen 0; have f21 := hb2.frozen 1; have HB2 := Lib.hid hb2; clear hb2; have HN := Lib.hid (And.intro hN (And.intro hcsz htk)); clear hN hcsz htk))
  all_goals unfold maxLen at hcm2
  all_goals go_wp2_with fail
  all_goals go_ret
  all_goals
    obtain ⟨r1, r2⟩ := grown_row (w0 := w'.drew) HH.out.hB hBw HB.out.lt HG.out.2.1 HG.out.2.2.2 hbel HB2.out HN.out.1 HN.out.2.1 hcap2 rfl
    exact ⟨rfl, cap2, cells, r1, HN.out.2.2, hcm2, r2⟩

theorem BufRow.setLast {w : World} {B b g l cap : Nat} {cur : Array Value} (h : BufRow w B b g l cap cur) (x : Int) : BufRow (w.setCell ⟨b, 2, none⟩ (.int .i8 x)) B b g l cap cur := by
  obtain ⟨lr, hb⟩ := h.blk
  exact ⟨h.hB, h.hBg, h.ne, ⟨x, hb.set 2 _⟩, h.row.far h.ne _, h.sz, h.le⟩
theorem BufRow.room {w : World} {B b g l cap : Nat} {cur : Array Value} (h : BufRow w B b g l cap cur) (hl : l + 1 ≤ cap) : BufRow (w.setCell ⟨b, 0, none⟩ (.slice (some ⟨g, 0, none⟩) (l + 1) cap)) B b g (l + 1) cap cur := by
  obtain ⟨lr, hb⟩ := h.blk
  exact ⟨h.hB, h.hBg, h.ne, ⟨lr, hb.set 0 _⟩, h.row.far h.ne _, h.sz, hl⟩
theorem BufRow.poke {w : World} {B b g l cap : Nat} {cur : Array Value} (h : BufRow w B b g l cap cur) (i : Nat) (v : Value) : BufRow (w.setCell ⟨g, i, none⟩ v) B b g l cap (cur.setIfInBounds i v) := by
  obtain ⟨lr, hb⟩ := h.blk
  exact ⟨h.hB, h.hBg, h.ne, ⟨lr, hb.far (fun e => h.ne e.symm) _⟩, h.row.set i v, by rw [Array.size_setIfInBounds]; exact h.sz, h.le⟩
/-- What WriteByte leaves. -/
def ByteEnd (w : World) (B b g l : Nat) (bs : List Value) (c : Value) (w' : World) : Prop :=
  ∃ g' cap' cur', BufRow w' B b g' (l + 1) cap' cur' ∧ cur'.toList.take (l + 1) = bs ++ [c] ∧ cap' ≤ maxLen ∧ Keeps (fun k => k = b ∨ k = g) w w'
end Go.Proofs.YtiboiagimcgjkaaDoor
