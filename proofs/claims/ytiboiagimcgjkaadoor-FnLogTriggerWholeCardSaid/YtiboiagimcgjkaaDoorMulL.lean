/- Several writers: two rows of texts are the same. -/
import Derived.Test.YtiboiagimcgjkaaDoorMulK
namespace Go.Proofs.YtiboiagimcgjkaaDoor
open Go.RowKit

theorem text_cells {w : World} {base k c : Nat} {p : Option Addr} {rows : List (List UInt8)} (h : w.ownsRow base 9 1 (.slice p k c) k (rows.map str)) (hk : 0 < k) : ∃ g, p = some ⟨g, 0, none⟩ ∧ ∀ i u, rows[i]? = some u → w.cell? ⟨g, i, none⟩ = some (str u) := by
  rcases h.2 with ⟨_, h1⟩ | ⟨g, cap, cur, he, hb, hgg, hlen, hpre⟩
  · omega
  · injection he with he _ _
    subst he
    have hw : Whole w g 9 cur := hgg
    refine ⟨g, rfl, fun i u hu => ?_⟩
    rw [hw.cell]
    have hl : (rows.map str).length = k * 1 := h.1
    rw [List.length_map] at hl
    have hi := (List.getElem?_eq_some_iff.1 hu).1
    have h5 := congrArg (·[i]?) hpre.2.2
    simp only [List.getElem?_map, hu] at h5
    rw [List.getElem?_take_of_lt (by omega)] at h5
    simpa using h5
theorem same_of_rows {w : World} {b1 b2 k c1 c2 : Nat} {p1 p2 : Option Addr} {rows : List (List UInt8)} (h1 : w.ownsRow b1 9 1 (.slice p1 k c1) k (rows.map str)) (h2 : w.ownsRow b2 9 1 (.slice p2 k c2) k (rows.map str)) : SameTexts w p1 p2 k := by
  intro i hi
  have hl : (rows.map str).length = k * 1 := h1.1
  rw [List.length_map] at hl
  obtain ⟨g1, e1, r1⟩ := text_cells h1 (by omega)
  obtain ⟨g2, e2, r2⟩ := text_cells h2 (by omega)
  have hr : rows[i]? = some rows[i] := List.getElem?_eq_getElem (by omega)
  exact ⟨g1, g2, _, e1, e2, r1 i _ hr, r2 i _ hr⟩
set_option maxRecDepth 100000 in
theorem append_texts (w : World) (base base2 n m : Nat) (v y : Value) (xs ys : List (List UInt8)) (hown : w.ownsRow base 9 1 v n (xs.map str)) (hsrc : w.ownsRow base2 9 1 y m (ys.map str)) (hn : n ≤ 10000000) (hm : m ≤ 10000000) (hbase : base ≤ w.heap.size) :
    ∃ v' w', (Builtin.append_ #[28, 28] 28 #[v, y]).run Tryd.prog w = .ok v' w' ∧ w'.ownsRow base 9 1 v' (n + m) ((xs ++ ys).map str) ∧ w.grownBy w' v.ownBlock := by
  obtain ⟨i0, hi0, hz0, hz1, hz2⟩ := info_parts Tryd.info9
  have hl : (ys.map str).length = m * 1 := hsrc.1
  rw [List.map_append]
  obtain ⟨p, l, c, rfl⟩ := own_slice hsrc
  rcases hsrc.2 with ⟨he, rfl⟩ | ⟨g, cap, cur, he, _⟩
  · injection he with e1 e2 e3
    subst e1 e2 e3
    refine ⟨v, w, run_append_owned_none (P := Tryd.prog) w base 28 28 9 i0 1 Tryd.underlying28 hi0 v n _ hown, ?_, ⟨rfl, rfl, rfl, Nat.le_refl _, fun _ _ _ => rfl⟩⟩
    rw [List.length_map] at hl
    obtain rfl : ys = [] := List.length_eq_zero_iff.1 (by omega)
    rw [List.map_nil, List.append_nil]
    exact hown
  · injection he with e1 e2 e3
    subst e1 e2 e3
    obtain ⟨v', w', h1, h2, h3, _⟩ := run_append_own_at (P := Tryd.prog) w base 28 28 9 i0 _ 1 16 Tryd.underlying28 hi0 hz0 hz1 hz2 rfl (by omega) v n _ hown ⟨g, 0, none⟩ l c (ys.map str) hl (by
      intro j u hj
      have hadd : (⟨g, 0, none⟩ : Addr).add j = ⟨g, j, none⟩ := by
        simp [Addr.add]
        omega
      rw [hadd]
      rw [List.getElem?_map] at hj
      obtain ⟨t, ht, rfl⟩ := Option.map_eq_some_iff.1 hj
      have hlt := (List.getElem?_eq_some_iff.1 ht).1
      rw [List.length_map] at hl
      obtain ⟨g', e', hr⟩ := text_cells hsrc (by omega)
      injection e' with e'
      injection e' with e'
      subst e'
      exact hr j t ht) (by
      intro u hu
      obtain ⟨t, _, rfl⟩ := List.mem_map.1 hu
      rfl) (by unfold maxLen; omega) (by omega) hbase
    exact ⟨v', w', h1, h2, h3⟩
end Go.Proofs.YtiboiagimcgjkaaDoor
