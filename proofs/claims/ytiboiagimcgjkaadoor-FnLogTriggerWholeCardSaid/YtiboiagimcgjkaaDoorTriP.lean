/- A writer that holds lines back: the plain law. -/
import Derived.Test.YtiboiagimcgjkaaDoorMulJ
namespace Go.Proofs.YtiboiagimcgjkaaDoor
open Go.RowKit

/-- What the writer holds: whether it has been triggered, what it has held back, what has come out. -/
structure TS where
  T : Bool
  B : List (Int × List UInt8)
  O : List (List UInt8)
def flush (s : TS) : TS := if s.T = true then s else ⟨true, s.B, s.O ++ s.B.map (·.2)⟩
def pass (cond lv : Int) (tx : List UInt8) (s : TS) : TS := if s.T = false ∧ lv ≤ cond then ⟨false, s.B ++ [(lv, tx)], s.O⟩ else ⟨s.T, s.B, s.O ++ [tx]⟩
def tline (cond trig lv : Int) (tx : List UInt8) (s : TS) : TS := pass cond lv tx (if trig ≤ lv then flush s else s)
def tstep (cond trig : Int) (s : TS) (x : LineOp) : TS := if x.tr = true then flush s else tline cond trig x.lv x.tx s
def trun (cond trig : Int) (ops : Nat → LineOp) : Nat → TS
  | 0 => ⟨false, [], []⟩
  | q + 1 => tstep cond trig (trun cond trig ops q) (ops q)

theorem flush_grows (s : TS) : ∃ ys, (flush s).O = s.O ++ ys := by
  unfold flush
  split
  · exact ⟨[], by simp⟩
  · exact ⟨_, rfl⟩
theorem pass_grows (cond lv : Int) (tx : List UInt8) (s : TS) : ∃ ys, (pass cond lv tx s).O = s.O ++ ys := by
  unfold pass
  split
  · exact ⟨[], by simp⟩
  · exact ⟨_, rfl⟩
theorem tline_grows (cond trig lv : Int) (tx : List UInt8) (s : TS) : ∃ ys, (tline cond trig lv tx s).O = s.O ++ ys := by
  unfold tline
  obtain ⟨ys, h⟩ := pass_grows cond lv tx (if trig ≤ lv then flush s else s)
  split at h
  · obtain ⟨zs, hz⟩ := flush_grows s
    rw [if_pos (by assumption), h, hz]
    exact ⟨zs ++ ys, by simp⟩
  · rw [if_neg (by assumption), h]
    exact ⟨ys, rfl⟩
theorem tstep_grows (cond trig : Int) (s : TS) (x : LineOp) : ∃ ys, (tstep cond trig s x).O = s.O ++ ys := by
  unfold tstep
  split
  · exact flush_grows s
  · exact tline_grows _ _ _ _ _
theorem trun_pre {cond trig : Int} {a b : Nat → LineOp} : ∀ (m : Nat), (∀ i, i < m → a i = b i) → trun cond trig a m = trun cond trig b m
  | 0, _ => rfl
  | m + 1, h => by rw [trun, trun, h m (by omega), trun_pre m (fun i hi => h i (by omega))]
theorem trun_cat (cond trig : Int) (a b : Nat → LineOp) (m : Nat) : ∀ q, ∃ ys, (trun cond trig (cat a m b) (m + q)).O = (trun cond trig a m).O ++ ys
  | 0 => ⟨[], by rw [Nat.add_zero, trun_pre (b := a) m (fun i hi => by simp [cat, hi])]; simp⟩
  | q + 1 => by
    obtain ⟨ys, h⟩ := trun_cat cond trig a b m q
    obtain ⟨zs, hz⟩ := tstep_grows cond trig (trun cond trig (cat a m b) (m + q)) (cat a m b (m + q))
    refine ⟨ys ++ zs, ?_⟩
    show (tstep cond trig (trun cond trig (cat a m b) (m + q)) (cat a m b (m + q))).O = _
    rw [hz, h, List.append_assoc]

/-- The texts of q lines. -/
def textsOf (ops : Nat → LineOp) : Nat → List (List UInt8)
  | 0 => []
  | q + 1 => textsOf ops q ++ [(ops q).tx]
theorem textsOf_len (ops : Nat → LineOp) : ∀ q, (textsOf ops q).length = q
  | 0 => rfl
  | q + 1 => by rw [textsOf, List.length_append, textsOf_len ops q]; rfl
/-- The texts above the conditional level. -/
def aboveOf (cond : Int) (ops : Nat → LineOp) : Nat → List (List UInt8)
  | 0 => []
  | q + 1 => if cond < (ops q).lv then aboveOf cond ops q ++ [(ops q).tx] else aboveOf cond ops q
theorem aboveOf_len (cond : Int) (ops : Nat → LineOp) : ∀ q, (aboveOf cond ops q).length ≤ q
  | 0 => Nat.le_refl 0
  | q + 1 => by
    have := aboveOf_len cond ops q
    simp only [aboveOf]
    split
    · rw [List.length_append]; exact Nat.add_le_add this (Nat.le_refl 1)
    · omega
theorem above_within (cond trig : Int) (ops : Nat → LineOp) : ∀ q, (∀ i, i < q → (ops i).tr = false) → (aboveOf cond ops q).Sublist (trun cond trig ops q).O
  | 0, _ => List.Sublist.refl _
  | q + 1, h => by
    have ih := above_within cond trig ops q (fun i hi => h i (by omega))
    simp only [trun, aboveOf, tstep, h q (by omega), Bool.false_eq_true, if_false]
    split
    · rename_i hlt
      have hp : ∀ s : TS, (pass cond (ops q).lv (ops q).tx s).O = s.O ++ [(ops q).tx] := fun s => by
        unfold pass
        rw [if_neg (by omega)]
      unfold tline
      rw [hp]
      refine List.Sublist.append ?_ (List.Sublist.refl _)
      split
      · obtain ⟨ys, hy⟩ := flush_grows (trun cond trig ops q)
        rw [hy]
        exact ih.trans (List.sublist_append_left _ _)
      · exact ih
    · obtain ⟨ys, hy⟩ := tline_grows cond trig (ops q).lv (ops q).tx (trun cond trig ops q)
      rw [hy]
      exact ih.trans (List.sublist_append_left _ _)

/-- What is out, and what is held back, are all the lines. -/
def All (s : TS) (l : List (List UInt8)) : Prop := if s.T = true then s.O.Perm l else (s.O ++ s.B.map (·.2)).Perm l
theorem all_flush {s : TS} {l : List (List UInt8)} (h : All s l) : (flush s).T = true ∧ (flush s).O.Perm l := by
  unfold All at h
  unfold flush
  split at h
  · rename_i ht
    rw [if_pos ht]
    exact ⟨ht, h⟩
  · rename_i ht
    rw [if_neg ht]
    exact ⟨rfl, h⟩
theorem all_pass {s : TS} {l : List (List UInt8)} (cond lv : Int) (tx : List UInt8) (h : All s l) : All (pass cond lv tx s) (l ++ [tx]) := by
  unfold pass
  split
  · rename_i hc
    unfold All at h ⊢
    rw [if_neg (by rw [hc.1]; simp)] at h
    rw [if_neg (by simp)]
    simp only [List.map_append, List.map_cons, List.map_nil]
    rw [← List.append_assoc]
    exact h.append_right _
  · unfold All at h ⊢
    simp only
    split at h
    · rename_i ht
      rw [if_pos ht]
      exact h.append_right _
    · rename_i ht
      rw [if_neg ht]
      refine List.Perm.trans ?_ (h.append_right [tx])
      rw [List.append_assoc, List.append_assoc]
      exact List.Perm.append_left _ List.perm_append_comm
theorem all_tline {s : TS} {l : List (List UInt8)} (cond trig lv : Int) (tx : List UInt8) (h : All s l) : All (tline cond trig lv tx s) (l ++ [tx]) := by
  unfold tline
  refine all_pass cond lv tx ?_
  split
  · obtain ⟨h1, h2⟩ := all_flush h
    unfold All
    rw [if_pos h1]
    exact h2
  · exact h
theorem all_trun (cond trig : Int) (ops : Nat → LineOp) : ∀ q, (∀ i, i < q → (ops i).tr = false) → All (trun cond trig ops q) (textsOf ops q)
  | 0, _ => by
    unfold All trun textsOf
    simp
  | q + 1, h => by
    simp only [trun, tstep, h q (by omega), Bool.false_eq_true, if_false, textsOf]
    exact all_tline _ _ _ _ (all_trun cond trig ops q (fun i hi => h i (by omega)))
/-- With a call of Trigger at the end all lines come out. -/
theorem whole_called (cond trig : Int) (ops : Nat → LineOp) (q : Nat) (z : LineOp) (hz : z.tr = true) (h : ∀ i, i < q → (ops i).tr = false) : (tstep cond trig (trun cond trig ops q) z).O.Perm (textsOf ops q) := by
  unfold tstep
  rw [if_pos hz]
  exact (all_flush (all_trun cond trig ops q h)).2
/-- With a line at the trigger level at the end, too. -/
theorem whole_line (cond trig : Int) (ops : Nat → LineOp) (q : Nat) (tx : List UInt8) (h : ∀ i, i < q → (ops i).tr = false) : (tline cond trig trig tx (trun cond trig ops q)).O.Perm (textsOf ops q ++ [tx]) := by
  unfold tline
  rw [if_pos (Int.le_refl _)]
  obtain ⟨h1, h2⟩ := all_flush (all_trun cond trig ops q h)
  unfold pass
  rw [if_neg (by rw [h1]; simp)]
  exact h2.append_right _
theorem trun_len (cond trig : Int) (ops : Nat → LineOp) (q : Nat) (h : ∀ i, i < q → (ops i).tr = false) : (trun cond trig ops q).O.length + (if (trun cond trig ops q).T = true then 0 else (trun cond trig ops q).B.length) = q := by
  have := all_trun cond trig ops q h
  unfold All at this
  split at this
  · rename_i ht
    rw [if_pos ht, this.length_eq, textsOf_len]
    rfl
  · rename_i ht
    have hl := this.length_eq
    rw [textsOf_len, List.length_append, List.length_map] at hl
    rw [if_neg ht]
    exact hl
end Go.Proofs.YtiboiagimcgjkaaDoor
