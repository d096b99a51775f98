/- Several writers: texts compared. -/
import Derived.Test.YtiboiagimcgjkaaDoorMulH
namespace Go.Proofs.YtiboiagimcgjkaaDoor
open Go.RowKit

/-- Two rows hold the same texts. -/
def SameTexts (w : World) (p1 p2 : Option Addr) (k : Nat) : Prop :=
  ∀ i, i < k → ∃ g1 g2 s, p1 = some ⟨g1, 0, none⟩ ∧ p2 = some ⟨g2, 0, none⟩ ∧ w.cell? ⟨g1, i, none⟩ = some (.string s) ∧ w.cell? ⟨g2, i, none⟩ = some (.string s)

set_option maxRecDepth 100000 in
set_option maxHeartbeats 1600000 in
theorem texts_same (k c1 c2 : Nat) (p1 p2 : Option Addr) (w : World) (h : SameTexts w p1 p2 k) (hk : k ≤ 1000) :
    Calls Tryd.prog 9 #[.slice p1 k c1, .slice p2 k c2] w fun e w' => e = .returned (.bool true) ∧ Below w.heap.size w w' := by
  have HS := Lib.hid h
  clear h
  go_enter Tryd.func9, Tryd.ntmps9
  go_wp2_with fail
  go_loopw [13] (fun i wr => ∃ q : Nat, i = .int .i64 q ∧ q ≤ k ∧ ∃ d : Nat, wr = w.drewN d) (fun i _ => k - (intOf i).toNat)
  case atStart => exact ⟨0, rfl, Nat.zero_le _, 0, rfl⟩
  case round =>
    obtain ⟨q, rfl, hq, d, rfl⟩ := hrel
    by_cases hqk : q < k
    · obtain ⟨g1, g2, s, rfl, rfl, h1, h2⟩ := HS.out q hqk
      go_wp2_with fail
      go_quiet (fail)
      go_wp2_with fail
      exact ⟨⟨q + 1, by go_num, by omega, _, rfl⟩, by simp [intOf]; omega⟩
    · obtain rfl : q = k := by omega
      go_wp2_with fail
      go_ret
      exact ⟨rfl, below_drewN (Below.refl _ _) _⟩
end Go.Proofs.YtiboiagimcgjkaaDoor
