/- Several writers: rows of lines put together. -/
import Derived.Test.YtiboiagimcgjkaaDoorMulJ
namespace Go.Proofs.YtiboiagimcgjkaaDoor
open Go.RowKit

theorem Tryd.info34 : (Tryd.prog.info? 34).map (fun i => (i.zero, i.size, i.bytes)) = some (some (.agg #[.int .i64 0, .string ⟨#[]⟩, .bool false, .bool false]), 4, 32) := by kernel_rfl
/-- The cells of a run of lines. -/
def opCells (a : Nat → LineOp) : Nat → List Value
  | 0 => []
  | n + 1 => opCells a n ++ [.int .i64 (a n).lv, str (a n).tx, .bool (a n).tr, .bool (a n).cl]
theorem opCells_len (a : Nat → LineOp) : ∀ n, (opCells a n).length = n * 4
  | 0 => rfl
  | n + 1 => by rw [opCells, List.length_append, opCells_len a n]; simp; omega
theorem opCells_congr {a b : Nat → LineOp} : ∀ n, (∀ i, i < n → a i = b i) → opCells a n = opCells b n
  | 0, _ => rfl
  | n + 1, h => by rw [opCells, opCells, opCells_congr n (fun i hi => h i (by omega)), h n (by omega)]
theorem opCells_cat (a b : Nat → LineOp) (n : Nat) : ∀ m, opCells (cat a n b) (n + m) = opCells a n ++ opCells b m
  | 0 => by rw [Nat.add_zero, opCells, List.append_nil]; exact opCells_congr n (fun i hi => by simp [cat, hi])
  | m + 1 => by
    have hc : cat a n b (n + m) = b m := by
      unfold cat
      rw [if_neg (by omega), show n + m - n = m by omega]
    rw [show n + (m + 1) = (n + m) + 1 by omega, opCells, opCells_cat a b n m, hc, opCells, List.append_assoc]
theorem opCells_one (a : Nat → LineOp) : ∀ n, ∀ u ∈ opCells a n, u.oneCell' = true
  | 0, u, h => by cases h
  | n + 1, u, h => by
    rw [opCells, List.mem_append] at h
    rcases h with h | h
    · exact opCells_one a n u h
    · simp only [List.mem_cons, List.not_mem_nil, or_false] at h
      rcases h with rfl | rfl | rfl | rfl <;> rfl
theorem opCells_read {w : World} {b o : Nat} (a : Nat → LineOp) : ∀ n, (∀ i, i < n → OpAt w b (o + i * 4) (a i)) → ∀ j u, (opCells a n)[j]? = some u → w.cell? ⟨b, o + j, none⟩ = some u
  | 0, _, j, u, h => by simp [opCells] at h
  | n + 1, hop, j, u, h => by
    rw [opCells, List.getElem?_append, opCells_len] at h
    split at h
    · exact opCells_read a n (fun i hi => hop i (by omega)) j u h
    · obtain ⟨h0, h1, h2, h3⟩ := hop n (by omega)
      obtain ⟨d, rfl⟩ : ∃ d, j = n * 4 + d := ⟨j - n * 4, by omega⟩
      rw [show n * 4 + d - n * 4 = d by omega] at h
      match d, h with
      | 0, h => simp at h; subst h; exact h0
      | 1, h => simp at h; subst h; exact h1
      | 2, h => simp at h; subst h; exact h2
      | 3, h => simp at h; subst h; exact h3
      | d + 4, h => simp at h
theorem opCells_at (a : Nat → LineOp) : ∀ n i d, i < n → d < 4 → (opCells a n)[i * 4 + d]? = [Value.int .i64 (a i).lv, str (a i).tx, .bool (a i).tr, .bool (a i).cl][d]?
  | 0, i, d, hi, _ => absurd hi (by omega)
  | n + 1, i, d, hi, hd => by
    rw [opCells, List.getElem?_append, opCells_len]
    by_cases h : i = n
    · subst h
      rw [if_neg (by omega), show i * 4 + d - i * 4 = d by omega]
    · rw [if_pos (by omega)]
      exact opCells_at a n i d (by omega) hd
/-- A row of lines that the caller owns. -/
theorem ops_of_row {w : World} {base n : Nat} {ap : Option Addr} {c : Nat} {a : Nat → LineOp} (h : w.ownsRow base 34 4 (.slice ap n c) n (opCells a n)) : OpsAt w ap n a := by
  intro i hi
  rcases h.2 with ⟨_, h1⟩ | ⟨g, cap, cur, he, hb, hgg, hlen, hpre⟩
  · omega
  · injection he with he _ _
    subst he
    have hw : Whole w g 34 cur := hgg
    have hcell : ∀ j u, (opCells a n)[j]? = some u → w.cell? ⟨g, j, none⟩ = some u := fun j u hj => by
      rw [hw.cell]
      have h5 := congrArg (·[j]?) hpre.2.2
      simp only [hj] at h5
      rw [List.getElem?_take_of_lt (by have := (List.getElem?_eq_some_iff.1 hj).1; rw [opCells_len] at this; exact this)] at h5
      simpa using h5
    have hlt : g < w.heap.size := (Array.getElem?_eq_some_iff.1 hgg).1
    refine ⟨g, 0, rfl, hlt, ?_⟩
    rw [Nat.zero_add]
    have hat := fun d hd => opCells_at a n i d hi hd
    exact ⟨hcell _ _ (hat 0 (by omega)), hcell _ _ (hat 1 (by omega)), hcell _ _ (hat 2 (by omega)), hcell _ _ (hat 3 (by omega))⟩
set_option maxRecDepth 100000 in
theorem append_ops (w : World) (base n m c : Nat) (v : Value) (a b : Nat → LineOp) (ap : Option Addr) (hown : w.ownsRow base 34 4 v n (opCells a n)) (hop : OpsAt w ap m b) (hnil : ap = none → m = 0 ∧ c = 0) (hn : n ≤ 10000000000) (hm : m ≤ 10000000000) (hbase : base ≤ w.heap.size) :
    ∃ v' w', (Builtin.append_ #[23, 23] 23 #[v, .slice ap m c]).run Tryd.prog w = .ok v' w' ∧ w'.ownsRow base 34 4 v' (n + m) (opCells (cat a n b) (n + m)) ∧ w.grownBy w' v.ownBlock := by
  obtain ⟨i0, hi0, hz0, hz1, hz2⟩ := info_parts Tryd.info34
  rw [opCells_cat]
  cases ap with
  | none =>
    obtain ⟨rfl, rfl⟩ := hnil rfl
    refine ⟨v, w, run_append_owned_none (P := Tryd.prog) w base 23 23 34 i0 4 Tryd.underlying23 hi0 v n _ hown, ?_, ⟨rfl, rfl, rfl, Nat.le_refl _, fun _ _ _ => rfl⟩⟩
    rw [opCells, List.append_nil]
    exact hown
  | some ad =>
    obtain ⟨v', w', h1, h2, h3, _⟩ := run_append_own_at (P := Tryd.prog) w base 23 23 34 i0 _ 4 32 Tryd.underlying23 hi0 hz0 hz1 hz2 rfl (by omega) v n _ hown ad m c (opCells b m) (opCells_len b m) (by
      intro j u hj
      by_cases h0 : m = 0
      · subst h0
        simp [opCells] at hj
      · obtain ⟨g, o, he, _, _⟩ := hop 0 (by omega)
        injection he with he
        subst he
        have hadd : (⟨g, o, none⟩ : Addr).add j = ⟨g, o + j, none⟩ := by simp [Addr.add]
        rw [hadd]
        refine opCells_read (w := w) (b := g) (o := o) b m (fun i hi => ?_) j u hj
        obtain ⟨g', o', he', _, h4⟩ := hop i hi
        injection he' with he'
        injection he' with e1 e2
        subst e1 e2
        exact h4) (opCells_one b m) (by unfold maxLen; omega) (by omega) hbase
    exact ⟨v', w', h1, h2, h3⟩
end Go.Proofs.YtiboiagimcgjkaaDoor
