/- Places and parts of a string, for a walk to take. -/
import Derived.Test.YtggebombeflmhaaDoorMem
import Derived.Lib.Strings
namespace Go.Proofs.YtggebombeflmhaaDoor
open Go.RowKit

set_option maxRecDepth 10000 in
theorem byte_at (s : ByteArray) (l : List UInt8) (h : s.data.toList = l) (i : Nat) (hi : i < l.length) : ∀ W, (Instr.index 9 (.string s) (.int .i64 (i : Int))).run Tryd.prog W = .ok (.int .u8 (l[i].toNat : Int)) W := fun W => by
  subst h
  have hs : i < s.size := by simpa using hi
  rw [run_index_string W 9 s .i64 (i : Int) rfl, dif_pos ⟨by omega, by omega⟩]
  simp
  rfl
set_option maxRecDepth 10000 in
theorem part_at (s : ByteArray) (l : List UInt8) (h : s.data.toList = l) (a b : Nat) (hab : a ≤ b) (hb : b ≤ l.length) : ∀ W, (Instr.slice 9 (.string s) (some (.int .i64 (a : Int))) (some (.int .i64 (b : Int))) none).run Tryd.prog W = .ok (.string ⟨((l.drop a).take (b - a)).toArray⟩) W := fun W => by
  subst h
  have hs : b ≤ s.size := by simpa using hb
  rw [← Lib.extract_eq]
  have hu := Tryd.underlying9
  go_simp
set_option maxRecDepth 10000 in
theorem tail_at (s : ByteArray) (l : List UInt8) (h : s.data.toList = l) (a : Nat) (ha : a ≤ l.length) : ∀ W, (Instr.slice 9 (.string s) (some (.int .i64 (a : Int))) none none).run Tryd.prog W = .ok (.string ⟨(l.drop a).toArray⟩) W := fun W => by
  subst h
  have hs : a ≤ s.size := by simpa using ha
  rw [run_slice_string_l W 9 s rfl .i64 (a : Int) (by omega) (by omega), Int.toNat_natCast, Lib.extract_eq, List.take_of_length_le (by simp)]
end Go.Proofs.YtggebombeflmhaaDoor
