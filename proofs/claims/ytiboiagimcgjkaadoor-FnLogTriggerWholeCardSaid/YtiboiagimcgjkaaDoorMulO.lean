/- Lines that come in as arguments: what their row of cells holds. -/
import Derived.Test.YtiboiagimcgjkaaDoorMulN
import Derived.Test.YtiboiagimcgjkaaDoorErrs
import Derived.Deep.Slices
import Derived.ChangeSame
namespace Go.Proofs.YtiboiagimcgjkaaDoor
open Go.ChangeShapes Go.WideShapes Go.ChangeAt Go.RowKit Go.Deep

theorem Tryd.cellsOf34 : Tryd.prog.cellsOf 34 = 4 := by kernel_rfl
theorem Tryd.cellsOf3 : Tryd.prog.cellsOf 3 = 1 := by kernel_rfl
theorem Tryd.cellsOf9 : Tryd.prog.cellsOf 9 = 1 := by kernel_rfl
theorem Tryd.cellsOf4 : Tryd.prog.cellsOf 4 = 1 := by kernel_rfl
section
variable {H : Type} {enc : TypeId × Value → H} {w : World} {base : Nat} {spare : Nat → Bool} {held : Bool}
set_option maxRecDepth 100000 in
/-- One line's four cells. -/
theorem open_op {fuel : Nat} {cs : List Value} {x : DataW H × List MemPlace} (h : DataW.trod enc Tryd.prog w base spare held fuel 34 cs = some x) :
    ∃ (lv : Int) (s : ByteArray) (tr cl : Bool), cs = [.int .i64 lv, .string s, .bool tr, .bool cl] := by
  obtain ⟨xs, n, _, _, hlen, hx, hf⟩ := DataW.trod_struct Tryd.underlying34 h
  rw [Tryd.cellsOf34] at hlen
  match cs, hlen with
  | [c0, c1, c2, c3], _ =>
    match xs, hx with
    | [y0, y1, y2, y3], _ =>
      have h0 := hf 0 _ rfl
      have h1 := hf 1 _ rfl
      have h2 := hf 2 _ rfl
      have h3 := hf 3 _ rfl
      simp only [List.getElem?_cons_zero, List.getElem?_cons_succ] at h0 h1 h2 h3
      obtain ⟨lv, e0, _⟩ := DataW.trod_int Tryd.underlying3 h0
      obtain ⟨s, e1, _⟩ := DataW.trod_string Tryd.underlying9 h1
      obtain ⟨tr, e2, _⟩ := DataW.trod_bool Tryd.underlying4 h2
      obtain ⟨cl, e3, _⟩ := DataW.trod_bool Tryd.underlying4 h3
      injection e0 with e0
      injection e1 with e1
      injection e2 with e2
      injection e3 with e3
      subst e0 e1 e2 e3
      exact ⟨lv, s, tr, cl, rfl⟩
set_option maxRecDepth 100000 in
/-- A row of lines. -/
theorem open_ops {fuel : Nat} {cs : List Value} {x : DataW H × List MemPlace} (h : DataW.trod enc Tryd.prog w base spare held fuel 23 cs = some x) :
    ∃ (ap : Option Addr) (m c : Nat) (ops : Nat → LineOp), cs = [.slice ap m c] ∧ OpsAt w ap m ops ∧ (ap = none → m = 0 ∧ c = 0) := by
  rcases open_slice Tryd.underlying23 h with ⟨rfl, _⟩ | ⟨a, len, cap, m, n, D, Pl, rfl, hb, hl, hm, hmm, hx, hi⟩
  · exact ⟨none, 0, 0, fun _ => ⟨0, [], false, false⟩, rfl, fun i hi => absurd hi (by omega), fun _ => ⟨rfl, rfl⟩⟩
  · have hlm : len ≤ m := by
      rw [hmm]
      split
      · exact hl
      · exact Nat.le_refl _
    have hcells : ∀ i, i < len → ∃ (lv : Int) (s : ByteArray) (tr cl : Bool), w.cell? ((a.add (i * 4)).add 0) = some (.int .i64 lv) ∧ w.cell? ((a.add (i * 4)).add 1) = some (.string s) ∧ w.cell? ((a.add (i * 4)).add 2) = some (.bool tr) ∧ w.cell? ((a.add (i * 4)).add 3) = some (.bool cl) := fun i hil => by
      obtain ⟨cs', hc, ht⟩ := hi i (by omega)
      rw [Tryd.cellsOf34] at hc
      obtain ⟨lv, s, tr, cl, rfl⟩ := open_op ht
      obtain ⟨_, _, hcell⟩ := World.cells?_some hc
      exact ⟨lv, s, tr, cl, hcell 0 (by omega), hcell 1 (by omega), hcell 2 (by omega), hcell 3 (by omega)⟩
    have hsp : 0 < len → a.spot = none := fun h0 => by
      obtain ⟨_, _, _, _, g0, _⟩ := hcells 0 h0
      have := World.cell?_spot g0
      simpa [Addr.add] using this
    obtain ⟨b, o, sp⟩ := a
    have hat : ∀ i, ∃ z : LineOp, i < len → sp = none ∧ OpAt w b (o + i * 4) z := fun i => by
      by_cases hil : i < len
      · obtain rfl : sp = none := hsp (by omega)
        obtain ⟨lv, s, tr, cl, g0, g1, g2, g3⟩ := hcells i hil
        rw [Go.WideShapes.add_plain, Go.WideShapes.add_plain] at g0 g1 g2 g3
        exact ⟨⟨lv, s.data.toList, tr, cl⟩, fun _ => ⟨rfl, g0, g1, g2, g3⟩⟩
      · exact ⟨⟨0, [], false, false⟩, fun h => absurd h hil⟩
    obtain ⟨ops, hops⟩ := Classical.axiomOfChoice hat
    refine ⟨some ⟨b, o, sp⟩, len, cap, ops, rfl, fun i hil => ?_, fun h => by cases h⟩
    obtain ⟨rfl, hop⟩ := hops i hil
    exact ⟨b, o, rfl, cell_lt hop.1, hop⟩
end
end Go.Proofs.YtiboiagimcgjkaaDoor
