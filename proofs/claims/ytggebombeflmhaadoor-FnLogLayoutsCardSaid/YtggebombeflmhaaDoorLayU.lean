/- Small words for the walks of one step. -/
import Derived.Test.YtggebombeflmhaaDoorLayS
import Derived.Test.YtggebombeflmhaaDoorKeep
import Derived.Lib.Hide
namespace Go.Proofs.YtggebombeflmhaaDoor
open Go.RowKit

theorem toList_mk (m : List UInt8) : (⟨m.toArray⟩ : ByteArray).toList = m := by
  rw [Lib.toList_data]
theorem not_lit (m lit : List UInt8) (k : Nat) (hk : m[k]? ≠ lit[k]?) : ((⟨m.toArray⟩ : ByteArray).toList == lit) = false := by
  rw [toList_mk]
  exact beq_eq_false_iff_ne.2 fun e => hk (by rw [e])

/-- A text that begins with no small letter. -/
theorem low_no (s : ByteArray) (c : UInt8) (R : List UInt8) (h : s.data.toList = c :: R) (hc : c.toNat < 97) (w : World) : Calls Tryd.prog 54 #[.string s] w fun e w' => e = .returned (.bool false) ∧ w = w' := by
  have i0 : ∀ W, (Instr.index 9 (.string s) (.int .i64 0)).run Tryd.prog W = .ok (.int .u8 (c.toNat : Int)) W := byte_at s _ h 0 (by simp)
  have hz : 1 ≤ s.size := by
    have : s.size = s.data.toList.length := by simp
    rw [this, h]
    simp
  obtain ⟨k, hk⟩ : ∃ k : Int, k = (c.toNat : Int) := ⟨_, rfl⟩
  have hk97 : k < 97 := by omega
  have hz0 : ((s.size : Int) == 0) = false := beq_eq_false_iff_ne.2 (by omega)
  rw [← hk] at i0
  clear h hk hc
  go_enter Tryd.func54, Tryd.ntmps54
  go_wp2_with fail
  go_ret
  exact ⟨rfl, rfl⟩
end Go.Proofs.YtggebombeflmhaaDoor
