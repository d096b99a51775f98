/- Spanned on the text of a duration; the law's walk. -/
import Derived.Test.YtdpjkhbjkgkjiaaDoorSpaQ
import Derived.Test.YtdpjkhbjkgkjiaaDoorLevC
import Derived.Test.YtdpjkhbjkgkjiaaDoorErrs
namespace Go.Proofs.YtdpjkhbjkgkjiaaDoor
open Go.RowKit

def BackEnd (w0 : World) (d : Int) (e : Ending) (w' : World) : Prop := e = .returned (.tuple #[.int .i64 d, .bool true]) ∧ Below w0.heap.size w0 w'

set_option maxRecDepth 100000 in
set_option maxHeartbeats 1000000 in
theorem spanned_zero (w : World) : Calls Tryd.prog 12 #[.string ⟨#[48, 115]⟩] w fun e w' => BackEnd w 0 e w' := by
  go_enter Tryd.func12, Tryd.ntmps12
  go_wp2_with fail
  go_ret2
  exact ⟨rfl, Below.refl _ _⟩

theorem spanned_text (d u : Int) (neg : Bool) (hs : Sized d u neg) (w0 W : World) (h0 : Below w0.heap.size w0 W) : Calls Tryd.prog 12 #[.string (textOf neg u.toNat)] W fun e w' => BackEnd w0 d e w' := by
  rcases Int.lt_or_le 0 u with hu | hu
  · have hu63 : u.toNat ≤ 9223372036854775808 := by rcases hs with ⟨_, _, _, h⟩ | ⟨_, _, _, h⟩ <;> omega
    have hup : 0 < u.toNat := by omega
    obtain ⟨c, l', hcl, hc1, hc2⟩ := body_head hup hu63
    have hv := parts_value u.toNat
    have hl := body_len (u := u.toNat) (by omega)
    refine (spanned_parts neg (textOf neg u.toNat) (partsOf u.toNat) (body u.toNat) (parts_text hup).symm rfl (parts_ok hu63) (by rw [hv]; exact hup) (by rw [hv]; exact hu63) ?_ (body_ne hup) c l' hcl hc1 hc2 ?_ W).mono ?_
    · intro hn
      rw [hv]
      rcases hs with ⟨h, _, _, _⟩ | ⟨_, _, _, h⟩
      · rw [hn] at h; cases h
      · omega
    · show ((signed neg (body u.toNat)).toArray).size ≤ 40
      cases neg <;> simp [signed] <;> omega
    · rintro e w' ⟨⟨n, rfl, hn⟩, hb⟩
      rw [hv] at hn
      have : n = d := by
        rcases hs with ⟨h1, h2, _, _⟩ | ⟨h1, h2, _, _⟩
        · rw [h1, if_pos rfl] at hn; omega
        · rw [h1, if_neg (by decide)] at hn; omega
      subst this
      exact ⟨rfl, h0.trans (hb.mono h0.size)⟩
  · have h1 : u = 0 ∧ neg = false ∧ d = 0 := by
      rcases hs with ⟨_, _, h, _⟩ | ⟨h1, h2, h3, h4⟩
      · omega
      · exact ⟨by omega, h1, by omega⟩
    obtain ⟨rfl, rfl, rfl⟩ := h1
    exact (spanned_zero W).mono fun e w' ⟨he, hb⟩ => ⟨he, h0.trans (hb.mono h0.size)⟩

theorem sized_of (d : Int) (h1 : -9223372036854775808 ≤ d) (h2 : d < 9223372036854775808) : ∃ u neg, Sized d u neg := by
  rcases Int.lt_or_le d 0 with h | h
  · exact ⟨-d, true, .inl ⟨rfl, by omega, by omega, by omega⟩⟩
  · exact ⟨d, false, .inr ⟨rfl, rfl, h, h2⟩⟩

set_option maxHeartbeats 1000000 in
theorem spanback_any (d : Int) (h1 : -9223372036854775808 ≤ d) (h2 : d < 9223372036854775808) (w : World) (hE : Errs w) :
    Calls Tryd.prog 5 #[.int .i64 d] w fun e w' => e = .returned (.bool true) ∧ Below w.heap.size w w' := by
  obtain ⟨u, neg, hs⟩ := sized_of d h1 h2
  have HS := Lib.hid hs
  clear hs
  go_enter Tryd.func5, Tryd.ntmps5
  go_wp2_with fail
  refine (lspan_any d u neg HS.out w).mono ?_
  rintro e w1 ⟨rfl, hb1⟩
  go_wp2_with fail
  refine (spanned_text d u neg HS.out w w1 hb1).mono ?_
  rintro e w2 ⟨rfl, hb2⟩
  rcases Int.lt_or_le (-9223372036854775808) d with h | h
  · have hz : (d == -9223372036854775808) = false := by simp; omega
    go_wp2_with fail
    refine (awake_any w w2 hb2 hE).mono ?_
    rintro e w3 ⟨rfl, hb3⟩
    go_wp2_with fail
    go_ret
    exact ⟨rfl, hb3⟩
  · obtain rfl : d = -9223372036854775808 := by omega
    go_wp2_with fail
    go_ret
    exact ⟨rfl, hb2⟩
end Go.Proofs.YtdpjkhbjkgkjiaaDoor
