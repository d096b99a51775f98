/- A number less one: the walk. -/
import Derived.Test.YtnfddblpenninaaDoorFixG
namespace Go.Proofs.YtnfddblpenninaaDoor
open Go.RowKit

/-- What 'minus' has done before round i: a one is still to be taken at i. -/
def Borrow (wr : World) (b cap i : Nat) (xs zs : List Nat) : Prop :=
  WB wr b cap zs ∧ zs.length = xs.length ∧ (∀ z ∈ zs, z < 4294967296) ∧ wval zs + 1 = wval xs + 4294967296 ^ i
theorem set_words {l : List Nat} (h : ∀ z ∈ l, z < 4294967296) (i c : Nat) (hc : c < 4294967296) : ∀ z ∈ l.set i c, z < 4294967296 := fun z hz => by
  rcases List.mem_or_eq_of_mem_set hz with hz | rfl
  · exact h z hz
  · exact hc
theorem Borrow.zero {wr w2 : World} {b cap i : Nat} {xs zs : List Nat} (h : Borrow wr b cap i xs zs) (hi : i < zs.length) (h0 : zs[i] = 0) (hw : WB w2 b cap (zs.set i 4294967295)) : Borrow w2 b cap (i + 1) xs (zs.set i 4294967295) := by
  obtain ⟨_, h2, h3, h4⟩ := h
  refine ⟨hw, by rw [List.length_set, h2], set_words h3 i _ (by decide), ?_⟩
  have := wval_set zs i 4294967295 hi
  rw [h0, Nat.mul_zero, Nat.add_zero] at this
  rw [this, Nat.pow_succ]
  omega
theorem Borrow.done {wr w2 : World} {b cap i : Nat} {xs zs : List Nat} (h : Borrow wr b cap i xs zs) (hi : i < zs.length) (h0 : 0 < zs[i]) (hw : WB w2 b cap (zs.set i (zs[i] - 1))) : NatAt w2 (some ⟨b, 0, none⟩) (zs.set i (zs[i] - 1)) ∧ wval (zs.set i (zs[i] - 1)) = wval xs - 1 := by
  obtain ⟨_, h2, h3, h4⟩ := h
  have hz := h3 zs[i] (List.getElem_mem _)
  refine ⟨NatAt.of_wb hw (set_words h3 i _ (by omega)), ?_⟩
  have := wval_set zs i (zs[i] - 1) hi
  have he : 4294967296 ^ i * zs[i] = 4294967296 ^ i * (zs[i] - 1) + 4294967296 ^ i := by
    rw [← Nat.mul_succ]
    congr 1
    omega
  omega

set_option maxRecDepth 100000 in
set_option maxHeartbeats 4000000 in
theorem minus_walk (p : Option Addr) (cp l : Nat) (xs : List Nat) (w : World) (h : NatAt w p xs) (hl : xs.length = l) (hl1 : l ≤ 10000) (hpos : 0 < wval xs) :
    Calls Tryd.prog 16 #[.slice p l cp] w (NEnd w (wval xs - 1) l) := by
  have h0 : 0 < l := by
    rcases Nat.eq_zero_or_pos l with rfl | h
    · obtain rfl : xs = [] := List.length_eq_zero_iff.1 hl
      simp [wval] at hpos
    · exact h
  obtain ⟨s, hp, hs, _⟩ := h.2 0 (by omega)
  subst hp
  have hx : ∀ i (h : i < xs.length), w.cell? ⟨s, i, none⟩ = some (wordV xs[i]) := fun i hi => by
    obtain ⟨g, hg, _, hc⟩ := h.2 i hi
    injection hg with hg
    injection hg with hg
    subst hg
    exact hc
  have k0 : Keeps (fun _ => False) w (w.alloc (.cells #[] 40)) := (Keeps.refl _ w).alloc _
  obtain ⟨g, cap, w1, hr, hg, hB, hcap, hgr⟩ := copy_words (w.alloc (.cells #[] 40)) w.heap.size cp s _ xs (own_empty w w.heap.size 40 1 (Nat.le_refl _)) (fun i hi => (k0.cell (p := ⟨s, i, none⟩) hs id).trans (hx i hi)) (by omega) (by omega) k0.size
  have hb1 : Below w.heap.size w w1 := (k0.below (Nat.le_refl _) (fun _ h => h.elim)).trans ((Keeps.of_grown hgr (S := fun k => w.heap.size ≤ k) (fun k hk => by injection hk with hk; rw [← hk]; exact Nat.le_refl _)).below k0.size (fun k hk => hk))
  have HH := Lib.hid (And.intro h (And.intro hl (And.intro hpos (And.intro hg (And.intro hB (And.intro hcap hb1))))))
  rw [hl] at hr
  have HR := Lib.hid hr
  clear h hx k0 hg hB hgr hb1 hpos hr hcap
  go_enter Tryd.func16, Tryd.ntmps16
  go_wp2_with (first | (at_builtin; refine wpList_app rfl _ _ 31 31 rfl _ _ _ rfl rfl HR.out ?_))
  go_loopw [10] (fun vi wr => ∃ (i : Nat) (zs : List Nat), vi = .int .i64 i ∧ i ≤ l ∧ Hid (Borrow wr g cap i xs zs ∧ Below w.heap.size w wr)) (fun vi _ => l - (intOf vi).toNat)
  case atStart => exact ⟨0, xs, rfl, Nat.zero_le _, Lib.hid ⟨⟨HH.out.2.2.2.2.1, rfl, HH.out.1.1, by simp⟩, HH.out.2.2.2.2.2.2⟩⟩
  case round =>
    obtain ⟨i, zs, rfl, hi, hM⟩ := hrel
    have hzl : zs.length = l := by rw [hM.out.1.2.1]; exact hl
    rcases Nat.eq_or_lt_of_le hi with rfl | hil
    · have h1 := wval_lt zs hM.out.1.2.2.1
      rw [hzl] at h1
      have h2 := hM.out.1.2.2.2
      have h3 := HH.out.2.2.1
      omega
    · have hiz : i < zs.length := by omega
      clear hi
      obtain ⟨z, hz⟩ : ∃ z, z = zs[i] := ⟨_, rfl⟩
      have hc : wr.cell? ⟨g, i, none⟩ = some (.int .u32 (z : Int)) := by rw [hz]; exact hM.out.1.1.cell i (by omega)
      have hf := hM.out.1.1.frozen i
      have hzb : z < 4294967296 := by rw [hz]; exact hM.out.1.2.2.1 _ (List.getElem_mem _)
      have hlc : i < cap := by have := HH.out.2.2.2.2.2.1; omega
      have hB2 : ∀ c, Below w.heap.size w (wr.setCell ⟨g, i, none⟩ (wordV c)) := fun c => hM.out.2.trans (((Keeps.refl (fun k => k = g) wr).set (p := ⟨g, i, none⟩) (.inl rfl) _).below hM.out.2.size (by rintro k rfl; exact HH.out.2.2.2.1))
      have HZ := Lib.hid (And.intro hz (And.intro hzl hB2))
      clear hz hB2
      rcases Nat.eq_zero_or_pos z with rfl | hz0
      · go_wp2_with fail
        have hb := hM.out.1.zero (by have := HZ.out.2.1; omega) HZ.out.1.symm (hM.out.1.1.turn i 4294967295 (by have := HZ.out.2.1; omega))
        exact ⟨⟨i + 1, _, by go_num, by omega, Lib.hid ⟨hb, HZ.out.2.2 4294967295⟩⟩, by simp [intOf]; omega⟩
      · have hne : (((z : Int) - 1) != 4294967295) = true := by simp; omega
        have hne2 : (((z : Int) - 1) == 4294967295) = false := by simp; omega
        go_wp2_with fail
        go_returns
        have hv : (Value.int .u32 ((z : Int) - 1)) = wordV (z - 1) := congrArg (Value.int .u32) (by omega)
        rw [hv]
        have hz := HZ.out.1
        subst hz
        have hd := hM.out.1.done hiz hz0 (hM.out.1.1.turn i _ hiz)
        have hlen : (zs.set i (zs[i] - 1)).length = l := by rw [List.length_set]; exact hzl
        refine ⟨some ⟨g, 0, none⟩, cap, zs.set i (zs[i] - 1), by rw [hlen]; rfl, ⟨hd.1, ?_⟩, hd.2, by rw [hlen]; exact Nat.le_refl _, HZ.out.2.2 _⟩
        rw [hlen, ← hl]
        exact HH.out.2.2.2.2.2.1
#print axioms minus_walk
end Go.Proofs.YtnfddblpenninaaDoor
