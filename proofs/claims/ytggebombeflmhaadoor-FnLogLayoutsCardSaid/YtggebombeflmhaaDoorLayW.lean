/- Format: the buffer and the text. -/
import Derived.Test.YtggebombeflmhaaDoorLayV
import Derived.Lib.SlBytesRow
namespace Go.Proofs.YtggebombeflmhaaDoor
open Go.RowKit

theorem Buf.bb {w : World} {b : Nat} {l : List UInt8} (h : Buf w b l) : BB w b l :=
  ⟨h.lt, fun i hi => h.cell i hi, fun i _ => h.frozen i⟩

theorem buf_new (w : World) (cs : Array Value) (t : TypeId) {b : Nat} (hb : b = w.heap.size) (h : cs.size = 64) : Buf (w.alloc (.cells cs t)) b [] := by
  subst hb
  exact ⟨cs, t, Whole.new w t cs, h, by simp, fun i hi => absurd hi (by simp)⟩
def Into (S : Int) (F : Nat) (off : Int) (str : ByteArray) (out : List UInt8) : Prop :=
  ∀ (w0 w : World) (b : Nat), Below w0.heap.size w0 w → Tabs w0 → w0.heap.size ≤ b → b < w.heap.size → Buf w b [] →
    Calls Tryd.prog 22 #[timeV S F off, .slice (some ⟨b, 0, none⟩) 0 64, .string str] w fun e w' => (e = .returned (.slice (some ⟨b, 0, none⟩) out.length 64) ∧ Buf w' b out) ∧ Below w0.heap.size w0 w'

set_option maxRecDepth 100000 in
set_option maxHeartbeats 1000000 in
theorem into_app {S : Int} {F : Nat} {off : Int} {str : ByteArray} {out : List UInt8} (H : Into S F off str out)
    (hr1 : (str.toList == [50, 48, 48, 54, 45, 48, 49, 45, 48, 50, 84, 49, 53, 58, 48, 52, 58, 48, 53, 90, 48, 55, 58, 48, 48]) = false)
    (hr2 : (str.toList == [50, 48, 48, 54, 45, 48, 49, 45, 48, 50, 84, 49, 53, 58, 48, 52, 58, 48, 53, 46, 57, 57, 57, 57, 57, 57, 57, 57, 57, 90, 48, 55, 58, 48, 48]) = false)
    (w0 w : World) (b : Nat) (hB : Below w0.heap.size w0 w) (hT : Tabs w0) (hb0 : w0.heap.size ≤ b) (hbw : b < w.heap.size) (hBuf : Buf w b []) :
    Calls Tryd.prog 18 #[timeV S F off, .slice (some ⟨b, 0, none⟩) 0 64, .string str] w fun e w' => (e = .returned (.slice (some ⟨b, 0, none⟩) out.length 64) ∧ Buf w' b out) ∧ Below w0.heap.size w0 w' := by
  have HH := Lib.hid H
  have HB := Lib.hid hB
  have HT := Lib.hid hT
  have HBuf := Lib.hid hBuf
  obtain ⟨n, hn⟩ : ∃ n, n = out.length := ⟨_, rfl⟩
  have HN := Lib.hid hn
  clear H hB hT hBuf
  rw [← hn]
  clear hn
  unfold timeV
  go_enter Tryd.func18, Tryd.ntmps18
  go_wp2_with fail
  refine (HH.out w0 _ b (HB.out.alloc HB.out.size _) HT.out hb0 (by simp; omega) (HBuf.out.alloc _)).mono ?_
  rintro e w1 ⟨⟨rfl, hb⟩, hbel⟩
  rw [← HN.out]
  have H1 := Lib.hid (And.intro hb hbel)
  clear hb hbel
  go_wp2_with fail
  go_ret
  exact ⟨⟨rfl, H1.out.1⟩, H1.out.2⟩

set_option maxRecDepth 100000 in
set_option maxHeartbeats 1000000 in
theorem format_text {S : Int} {F : Nat} {off : Int} {str : ByteArray} {out : List UInt8} (H : Into S F off str out)
    (hr1 : (str.toList == [50, 48, 48, 54, 45, 48, 49, 45, 48, 50, 84, 49, 53, 58, 48, 52, 58, 48, 53, 90, 48, 55, 58, 48, 48]) = false)
    (hr2 : (str.toList == [50, 48, 48, 54, 45, 48, 49, 45, 48, 50, 84, 49, 53, 58, 48, 52, 58, 48, 53, 46, 57, 57, 57, 57, 57, 57, 57, 57, 57, 90, 48, 55, 58, 48, 48]) = false)
    (hz : str.size ≤ 40) (w0 w : World) (hB : Below w0.heap.size w0 w) (hT : Tabs w0) :
    Calls Tryd.prog 9 #[timeV S F off, .string str] w fun e w' => e = .returned (.string ⟨out.toArray⟩) ∧ Below w0.heap.size w0 w' := by
  have HA := Lib.hid (into_app H hr1 hr2)
  have HB := Lib.hid hB
  have HT := Lib.hid hT
  obtain ⟨n, hn⟩ : ∃ n, n = out.length := ⟨_, rfl⟩
  have HN := Lib.hid hn
  obtain ⟨t, ht⟩ : ∃ t : ByteArray, t = ⟨out.toArray⟩ := ⟨_, rfl⟩
  have HTX := Lib.hid ht
  rw [← ht]
  clear H hr1 hr2 hB hT hn ht
  unfold timeV
  go_enter Tryd.func9, Tryd.ntmps9
  go_wp2_with fail
  have hs := HB.out.size
  refine (HA.out w0 _ (w.heap.size + 1) ((HB.out.alloc HB.out.size _).alloc (HB.out.alloc HB.out.size _).size _) HT.out (by omega) (by simp) (buf_new _ _ _ (by simp) rfl)).mono ?_
  rintro e w1 ⟨⟨rfl, hb⟩, hbel⟩
  rw [← HN.out]
  have H1 := Lib.hid (And.intro hb hbel)
  have hcv : (convert 43 9 (.slice (some ⟨w.heap.size + 1, 0, none⟩) n 64)).run Tryd.prog w1 = .ok (.string t) w1 := by
    rw [HTX.out]
    exact conv_string hb.bb n 64 HN.out.symm
  clear hb hbel
  go_wp2_with fail
  go_ret
  exact ⟨rfl, H1.out.2⟩
end Go.Proofs.YtggebombeflmhaaDoor
