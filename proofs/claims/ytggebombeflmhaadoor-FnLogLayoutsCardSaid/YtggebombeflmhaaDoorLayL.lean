/- Texts appended to the buffer. -/
import Derived.Test.YtggebombeflmhaaDoorLayC
import Derived.Lib.AppendStr
namespace Go.Proofs.YtggebombeflmhaaDoor
open Go.RowKit

theorem str_cells (s : ByteArray) (m : List UInt8) (h : s.data.toList = m) : Lib.strCells s = m.map byteV := by
  subst h
  rfl
/-- An append of a text that fits. -/
theorem buf_text {w : World} {b : Nat} {l : List UInt8} {n : Nat} (h : Buf w b l) (s : ByteArray) (m : List UInt8) (k : Nat) (hs : s.data.toList = m) (hk : m.length = k) (h64 : n + k ≤ 64) :
    (Builtin.append_ #[43, 9] 43 #[.slice (some ⟨b, 0, none⟩) n 64, .string s]).run Tryd.prog w = .ok (.slice (some ⟨b, 0, none⟩) (n + k) 64) (w.setCells b n (m.map byteV)) := by
  obtain ⟨i, hi, hs1⟩ := info5
  have hz : s.size = k := by rw [← hk, ← hs]; simp
  have hf := Lib.run_firstCells_string (P := Tryd.prog) w 1 s
  have hst := run_storeCells_cells (P := Tryd.prog) b n (m.map byteV) 0 w (fun j hj => by
      have hj' : j < m.length := by simpa using hj
      exact h.at _ (by omega)) (fun j _ => h.frozen _) (fun u hu => by
    obtain ⟨x, _, rfl⟩ := List.mem_map.1 hu
    rfl)
  rw [str_cells s m hs, hz] at hf
  simp only [Nat.add_zero] at hst
  simp [Builtin.append_, run_underlying Tryd.underlying43, run_underlying Tryd.underlying9, sizeOf, typeInfo, hi, hs1, Builtin.lenOf, h64, hf, Addr.add_lit, hst, hz]
end Go.Proofs.YtggebombeflmhaaDoor
