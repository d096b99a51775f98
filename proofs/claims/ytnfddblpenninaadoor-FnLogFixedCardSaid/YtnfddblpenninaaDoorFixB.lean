/- A number times a small one and a small one more. -/
import Derived.Test.YtnfddblpenninaaDoorFixA
namespace Go.Proofs.YtnfddblpenninaaDoor
open Go.RowKit

/-- What 'times' has done before round i. -/
def Mul (w1 wr : World) (b cap by' more i : Nat) (xs ys : List Nat) (c : Nat) : Prop :=
  WB wr b cap ys ∧ Keeps (fun k => k = b) w1 wr ∧ (∀ y ∈ ys, y < 4294967296) ∧ c < 4294967296 ∧ wval ys + 4294967296 ^ i * c = wval (xs.take i) * by' + more
theorem Mul.next {w1 wr w2 : World} {b cap by' more i : Nat} {xs ys : List Nat} {c : Nat} (h : Mul w1 wr b cap by' more i xs ys c) (hi : i < xs.length) (hy : ys.length = i) (hx : xs[i] < 4294967296) (hb : by' < 4294967296)
    (hw : WB w2 b cap (ys ++ [(c + xs[i] * by') % 4294967296])) (hk : Keeps (fun k => k = b) w1 w2) : Mul w1 w2 b cap by' more (i + 1) xs (ys ++ [(c + xs[i] * by') % 4294967296]) ((c + xs[i] * by') / 4294967296) := by
  obtain ⟨_, _, h3, h4, h5⟩ := h
  refine ⟨hw, hk, ?_, (step_carry c xs[i] by' h4 hx hb).2, ?_⟩
  · intro y hm
    rcases List.mem_append.1 hm with hm | hm
    · exact h3 y hm
    · rw [List.mem_singleton.1 hm]
      exact Nat.mod_lt _ (by decide)
  · rw [wval_append, hy, wval_take xs i hi, Nat.add_mul, Nat.pow_succ, Nat.mul_assoc, Nat.mul_assoc]
    have hd := Nat.div_add_mod (c + xs[i] * by') 4294967296
    have he : 4294967296 ^ i * wval [(c + xs[i] * by') % 4294967296] + 4294967296 ^ i * (4294967296 * ((c + xs[i] * by') / 4294967296)) = 4294967296 ^ i * (c + xs[i] * by') := by
      rw [← Nat.mul_add]
      congr 1
      simp only [wval]
      omega
    rw [Nat.add_assoc, he, Nat.mul_add]
    omega

set_option maxRecDepth 100000 in
set_option maxHeartbeats 4000000 in
theorem times_walk (p : Option Addr) (cp : Nat) (xs : List Nat) (by' more : Nat) (w : World) (h : NatAt w p xs) (n : Nat) (hn : xs.length = n) (hn1 : n ≤ 10000) (hb : by' < 4294967296) (hm : more < 4294967296) :
    Calls Tryd.prog 14 #[.slice p n cp, .int .u32 (by' : Int), .int .u32 (more : Int)] w fun e w' => ∃ (q : Option Addr) (c : Nat) (ys : List Nat), e = .returned (.slice q ys.length c) ∧ (NatAt w' q ys ∧ ys.length ≤ c) ∧ wval ys = wval xs * by' + more ∧ ys.length ≤ n + 1 ∧ Below w.heap.size w w' := by
  obtain ⟨cs, hcs, hmk0⟩ := make_words (n + 1) (by omega)
  have hmk : Sem.run Tryd.prog (Instr.makeSlice 31 (Value.int IntKind.i64 0) (Value.int IntKind.i64 ((n : Int) + 1))) w = _ := hmk0 w
  clear hmk0
  have HH := Lib.hid (And.intro h (And.intro hn hcs))
  clear h hn hcs
  go_enter Tryd.func14, Tryd.ntmps14
  go_wp2_with fail
  go_loopw [7, 8, 19] (fun vo vc vi wr => ∃ (i c : Nat) (ys : List Nat), vi = .int .i64 i ∧ i ≤ n ∧ vc = .int .u64 c ∧ vo = .slice (some ⟨w.heap.size, 0, none⟩) i (n + 1) ∧ Hid (ys.length = i ∧ Mul (w.alloc (Obj.cells cs 40)) wr w.heap.size (n + 1) by' more i xs ys c)) (fun _ _ i _ => n - (intOf i).toNat)
  case atStart =>
    refine ⟨0, more, [], rfl, Nat.zero_le _, rfl, rfl, Lib.hid ⟨rfl, ⟨cs, Whole.new w 40 cs, HH.out.2.2, by simp, fun i hi => by simp at hi⟩, Keeps.refl _ _, by simp, hm, ?_⟩⟩
    simp [wval]
  case round =>
    obtain ⟨i, c, ys, rfl, hi, rfl, rfl, hM⟩ := hrel
    by_cases hin : i < n
    · have hix : i < xs.length := by rw [HH.out.2.1]; exact hin
      obtain ⟨g, hp, hg, hcell⟩ := HH.out.1.2 i hix
      obtain ⟨x, hx⟩ : ∃ x, x = xs[i] := ⟨_, rfl⟩
      rw [← hx] at hcell
      have hxl : x < 4294967296 := by rw [hx]; exact HH.out.1.1 _ (List.getElem_mem _)
      have hst := step_carry c x by' hM.out.2.2.2.2.1 hxl hb
      have hI1 : 0 ≤ (x : Int) * (by' : Int) := Int.mul_nonneg (by omega) (by omega)
      have hI2 : (c : Int) + (x : Int) * (by' : Int) ≤ 18446744073709551615 := by
        have : ((c + x * by' : Nat) : Int) < ((18446744073709551616 : Nat) : Int) := Int.ofNat_lt.2 hst.1
        rw [Int.natCast_add, Int.natCast_mul] at this
        omega
      have kW : Keeps (fun k => k = w.heap.size) (w.alloc (Obj.cells cs 40)) wr := hM.out.2.2.1
      have hcr : wr.cell? ⟨g, i, none⟩ = some (.int .u32 (x : Int)) := by
        rw [kW.cell (p := ⟨g, i, none⟩) (by simp; omega) (by simp; omega)]
        exact (((Keeps.refl (fun _ => False) w).alloc _).cell (p := ⟨g, i, none⟩) hg id).trans hcell
      subst hp
      have HX := Lib.hid (And.intro hx (And.intro hxl (And.intro hst (And.intro kW hg))))
      clear hx hcell kW hst hg
      go_wp2_with (first | (at_builtin; refine wpList_push rfl _ _ rfl rfl w.heap.size i (n + 1) ys ((c + x * by') % 4294967296) ⟨wr.heap.size, 0, none⟩ rfl rfl (hM.out.2.1.keep ((Keeps.refl (fun _ => False) wr).alloc _) id) hM.out.1 (by omega) (new_word wr _ _ (by rw [Int.natCast_emod, Int.natCast_add, Int.natCast_mul]; rfl)) ?_; intro w2 hB2 hK2; have H2 := Lib.hid (And.intro hB2 hK2); clear hB2 hK2))
      have hx := HX.out.1
      subst hx
      refine ⟨⟨i + 1, (c + xs[i] * by') / 4294967296, ys ++ [(c + xs[i] * by') % 4294967296], by go_num, by omega, ?_, rfl, Lib.hid ⟨by rw [List.length_append, hM.out.1]; rfl, hM.out.2.next hix hM.out.1 HX.out.2.1 hb H2.out.1 (HX.out.2.2.2.1.trans (((Keeps.refl (fun k => k = w.heap.size) wr).alloc _).trans H2.out.2))⟩⟩, by simp [intOf]; omega⟩
      rw [Int.natCast_ediv, Int.natCast_add, Int.natCast_mul]
      rfl
    · obtain rfl : i = n := by omega
      obtain ⟨h1, h2, h3, h4, h5, h6⟩ := hM.out
      have htk : xs.take i = xs := List.take_of_length_le (by rw [HH.out.2.1]; exact Nat.le_refl _)
      rw [htk] at h6
      have hs1 : w.heap.size ≤ wr.heap.size := by have := h3.size; simp at this; omega
      have kw : Keeps (fun _ => False) w wr := ⟨h3.os, h3.tape, h3.output, hs1, fun k hk _ => (h3.block k (by simp; omega) (by omega)).trans (Below.heap_alloc w _ k hk)⟩
      have H6 := Lib.hid (And.intro h1 (And.intro h2 (And.intro kw (And.intro h4 h6))))
      have hMM := Lib.hid hM
      clear h1 h2 h3 h4 h6 htk kw hM hMM
      rcases Nat.eq_zero_or_pos c with rfl | hc
      · go_wp2_with fail
        go_returns
        refine ⟨some ⟨w.heap.size, 0, none⟩, i + 1, ys, by rw [H6.out.1]; rfl, ⟨NatAt.of_wb H6.out.2.1 H6.out.2.2.2.1, by rw [H6.out.1]; omega⟩, ?_, by rw [H6.out.1]; omega, H6.out.2.2.1.below (Nat.le_refl _) (fun _ h => h.elim)⟩
        have := H6.out.2.2.2.2
        omega
      · go_wp2_with (first | (at_builtin; refine wpList_push rfl _ _ rfl rfl w.heap.size i (i + 1) ys c ⟨wr.heap.size, 0, none⟩ rfl rfl (H6.out.2.1.keep ((Keeps.refl (fun _ => False) wr).alloc _) id) H6.out.1 (by omega) (new_word wr _ _ (by omega)) ?_; intro w2 hB2 hK2; have H2 := Lib.hid (And.intro hB2 hK2); clear hB2 hK2))
        go_returns
        have hlen : (ys ++ [c]).length = i + 1 := by rw [List.length_append, H6.out.1]; rfl
        have hkk : Keeps (fun k => k = w.heap.size) wr w2 := ((Keeps.refl (fun k => k = w.heap.size) wr).alloc _).trans H2.out.2
        refine ⟨some ⟨w.heap.size, 0, none⟩, i + 1, ys ++ [c], by rw [hlen]; rfl, ⟨NatAt.of_wb H2.out.1 ?_, by rw [hlen]; omega⟩, ?_, by rw [hlen]; omega, (H6.out.2.2.1.below (Nat.le_refl _) (fun _ h => h.elim)).trans (hkk.below hs1 (by rintro k rfl; exact Nat.le_refl _))⟩
        · intro y hy
          rcases List.mem_append.1 hy with hy | hy
          · exact H6.out.2.2.2.1 y hy
          · rw [List.mem_singleton.1 hy]
            exact h5
        · rw [wval_append, H6.out.1, ← H6.out.2.2.2.2]
          simp [wval]
#print axioms times_walk
end Go.Proofs.YtnfddblpenninaaDoor
