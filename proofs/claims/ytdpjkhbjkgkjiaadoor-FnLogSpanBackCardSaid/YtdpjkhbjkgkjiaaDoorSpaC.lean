/- What String and LSpan return. -/
import Derived.Test.YtdpjkhbjkgkjiaaDoorSpaB
namespace Go.Proofs.YtdpjkhbjkgkjiaaDoor
open Go.RowKit

set_option maxRecDepth 10000 in
theorem cut_from (b m : Nat) (h : m < 32) : ∀ W, (Instr.sliceAt 69 (.pointer (some ⟨b, 0, none⟩)) (some (.int .i64 (m : Int))) none none).run Tryd.prog W = .ok (.slice (some ⟨b, m, none⟩) (32 - m) (32 - m)) W := fun W => by
  have hal : Tryd.prog.arrayLen 69 = 32 := rfl
  rw [run_sliceAt_array_l W 69 ⟨b, 0, none⟩ rfl .i64 (m : Int) (by omega) (by rw [hal]; omega), hal]
  go_simp
  omega

theorem conv_tail {W : World} {b m : Nat} {l : List UInt8} (h : TailB W b l) (hm : m + l.length = 32) (hl : 0 < l.length) : (convert 23 9 (.slice (some ⟨b, m, none⟩) (32 - m) (32 - m))).run Tryd.prog W = .ok (.string ⟨l.toArray⟩) W := by
  have hz : (⟨l.toArray⟩ : ByteArray).size = 32 - m := by show l.toArray.size = _; simp; omega
  obtain ⟨cs, t, hw, hs, _, hc⟩ := h
  have := Lib.run_convert_whole (P := Tryd.prog) W 23 5 9 Tryd.underlying23 Tryd.underlying5 Tryd.underlying9 b m ⟨l.toArray⟩ (fun i hi => by
    have hi' : i < l.length := by rw [hz] at hi; omega
    have := hc i hi'
    rw [hw.cell, show m + i = 32 - l.length + i by omega, this]
    rfl) (32 - m)
  rw [hz] at this
  exact this

theorem digs_ne (u : Nat) (l : List UInt8) : 0 < (digs u ++ l).length := by have := digs_pos u; simp; omega
theorem body_pos (u : Nat) : 0 < (body u).length := by
  unfold body sec2 sec1
  repeat' split
  all_goals first
    | (simp; done)
    | exact digs_ne _ _
theorem signed_pos (neg : Bool) (u : Nat) : 0 < (signed neg (body u)).length := by
  have := body_pos u
  cases neg
  · exact this
  · simp [signed]

/-- The text of a duration. -/
def textOf (neg : Bool) (u : Nat) : ByteArray := ⟨(signed neg (body u)).toArray⟩

theorem zero_tail (w : World) : TailB (w.alloc (.cells (Array.replicate 32 (.int .u8 0)) 69)) w.heap.size [] :=
  ⟨_, 69, Whole.new w 69 _, by simp, by simp, fun i hi => absurd hi (by simp)⟩

set_option maxHeartbeats 400000 in
theorem string_any (d u : Int) (neg : Bool) (hs : Sized d u neg) (w : World) :
    Calls Tryd.prog 18 #[.int .i64 d] w fun e w' => e = .returned (.string (textOf neg u.toNat)) ∧ Below w.heap.size w w' := by
  have HS := Lib.hid hs
  clear hs
  go_enter Tryd.func18, Tryd.ntmps18
  go_wp2_with fail
  refine (format_any w.heap.size d u neg HS.out _ (zero_tail w)).mono ?_
  rintro e w1 ⟨m, rfl, hm, hT, hK⟩
  have hp := signed_pos neg u.toNat
  have hc := cut_from w.heap.size m (by omega)
  have hv := conv_tail hT hm hp
  have HH := Lib.hid hK
  clear hT hm hK hp
  go_wp2_with fail
  go_ret
  exact ⟨rfl, by
    have h := HH.out
    exact ((Below.refl w.heap.size w).alloc (Nat.le_refl _) _).trans (h.below (by simp) (fun k hk => by omega))⟩

theorem lspan_any (d u : Int) (neg : Bool) (hs : Sized d u neg) (w : World) :
    Calls Tryd.prog 13 #[.int .i64 d] w fun e w' => e = .returned (.string (textOf neg u.toNat)) ∧ Below w.heap.size w w' := by
  go_enter Tryd.func13, Tryd.ntmps13
  go_wp2_with fail
  refine (string_any d u neg hs w).mono ?_
  rintro e w1 ⟨rfl, hB⟩
  go_wp2_with fail
  go_ret
  exact ⟨rfl, hB⟩
end Go.Proofs.YtdpjkhbjkgkjiaaDoor
