/- A number less one; whether it is even. -/
import Derived.Test.YtnfddblpenninaaDoorFixF
namespace Go.Proofs.YtnfddblpenninaaDoor
open Go.RowKit

theorem wval_mod (xs : List Nat) (h : 0 < xs.length) : wval xs % 2 = xs[0] % 2 := by
  cases xs with
  | nil => simp at h
  | cons x r =>
    simp only [wval, List.getElem_cons_zero]
    omega
set_option maxRecDepth 100000 in
theorem even_walk (p : Option Addr) (cp l : Nat) (xs : List Nat) (w : World) (h : NatAt w p xs) (hl : xs.length = l) (hl1 : l ≤ 10000) :
    Calls Tryd.prog 18 #[.slice p l cp] w fun e w' => e = .returned (.bool (wval xs % 2 == 0)) ∧ w = w' := by
  rcases Nat.eq_zero_or_pos l with rfl | hpos
  · obtain rfl : xs = [] := List.length_eq_zero_iff.1 hl
    clear h hl
    go_enter Tryd.func18, Tryd.ntmps18
    go_wp2_with fail
    go_returns
    exact ⟨rfl, rfl⟩
  · obtain ⟨g, hp, hg, hc⟩ := h.2 0 (by omega)
    have hm := wval_mod xs (by omega)
    obtain ⟨x, hx⟩ : ∃ x, x = xs[0]'(by omega) := ⟨_, rfl⟩
    rw [← hx] at hc hm
    replace hc : w.cell? ⟨g, 0, none⟩ = some (.int .u32 (x : Int)) := hc
    subst hp
    have HM := Lib.hid hm
    clear h hl hm hx
    go_enter Tryd.func18, Tryd.ntmps18
    go_wp2_with fail
    go_returns
    refine ⟨?_, rfl⟩
    rw [HM.out]
    exact congrArg (fun b => Ending.returned (.bool b)) (Bool.eq_iff_iff.2 (by simp; omega))

theorem wval_set : ∀ (l : List Nat) (i c : Nat) (h : i < l.length), wval (l.set i c) + 4294967296 ^ i * l[i] = wval l + 4294967296 ^ i * c
  | x :: r, 0, c, _ => by simp [wval]; omega
  | x :: r, i + 1, c, h => by
    have ih := wval_set r i c (by simpa using h)
    simp only [List.set_cons_succ, wval, List.getElem_cons_succ, Nat.pow_succ]
    have e1 : 4294967296 ^ i * 4294967296 * r[i]'(by simpa using h) = 4294967296 * (4294967296 ^ i * r[i]'(by simpa using h)) := by rw [Nat.mul_comm (4294967296 ^ i), Nat.mul_assoc]
    have e2 : 4294967296 ^ i * 4294967296 * c = 4294967296 * (4294967296 ^ i * c) := by rw [Nat.mul_comm (4294967296 ^ i), Nat.mul_assoc]
    rw [e1, e2]
    omega
theorem WB.turn {w : World} {b cap : Nat} {l : List Nat} (h : WB w b cap l) (i c : Nat) (hi : i < l.length) : WB (w.setCell ⟨b, i, none⟩ (wordV c)) b cap (l.set i c) := by
  obtain ⟨cs, hw, hs, hl, hc⟩ := h
  refine ⟨cs.setIfInBounds i (wordV c), hw.set i _, by simpa using hs, by simpa using hl, fun j hj => ?_⟩
  have hj' : j < l.length := by simpa using hj
  rw [Array.getElem?_setIfInBounds, List.getElem_set]
  by_cases h : i = j
  · subst h
    rw [if_pos rfl, if_pos (by omega), if_pos rfl]
  · rw [if_neg h, if_neg h, hc j hj']
theorem own_empty (w : World) (base : Nat) (e : TypeId) (size : Nat) (hb : base ≤ w.heap.size) : (w.alloc (.cells #[] e)).ownsRow base e size (.slice (some ⟨w.heap.size, 0, none⟩) 0 0) 0 [] :=
  ⟨by simp, .inr ⟨w.heap.size, 0, #[], rfl, hb, Whole.new w e #[], by simp, by simp⟩⟩
theorem wb_of_row {w : World} {base n : Nat} {v : Value} {xs : List Nat} (h : w.ownsRow base 40 1 v n (xs.map wordV)) (h0 : 0 < n) : ∃ g cap, v = .slice (some ⟨g, 0, none⟩) n cap ∧ base ≤ g ∧ WB w g cap xs ∧ n ≤ cap := by
  have hlen := h.1
  rcases h.2 with ⟨_, h1⟩ | ⟨g, cap, cur, rfl, hb, hgg, hnc, _, hsz, htk⟩
  · omega
  · rw [List.length_map, Nat.mul_one] at hlen
    refine ⟨g, cap, rfl, hb, ⟨cur, hgg, by omega, by omega, fun i hi => ?_⟩, hnc⟩
    have h5 := congrArg (·[i]?) htk
    simp only [List.getElem?_map, List.getElem?_eq_getElem hi, Option.map_some] at h5
    rw [List.getElem?_take_of_lt (by omega)] at h5
    simpa using h5
set_option maxRecDepth 10000 in
theorem copy_words (w : World) (base c s : Nat) (v : Value) (xs : List Nat) (hown : w.ownsRow base 40 1 v 0 []) (hx : ∀ i (h : i < xs.length), w.cell? ⟨s, i, none⟩ = some (wordV xs[i])) (h0 : 0 < xs.length) (hn : xs.length ≤ 10000) (hbase : base ≤ w.heap.size) :
    ∃ g cap w', (Builtin.append_ #[31, 31] 31 #[v, .slice (some ⟨s, 0, none⟩) xs.length c]).run Tryd.prog w = .ok (.slice (some ⟨g, 0, none⟩) xs.length cap) w' ∧ base ≤ g ∧ WB w' g cap xs ∧ xs.length ≤ cap ∧ w.grownBy w' v.ownBlock := by
  obtain ⟨i0, hi0, hz1, hz0, hz2⟩ := info40
  obtain ⟨v', w', h1, h2, h3, _⟩ := run_append_own_at (P := Tryd.prog) w base 31 31 40 i0 _ 1 4 Tryd.underlying31 hi0 hz0 hz1 hz2 rfl (by omega) v 0 _ hown ⟨s, 0, none⟩ xs.length c (xs.map wordV) (by simp) (by
      intro j u hj
      have hadd : (⟨s, 0, none⟩ : Addr).add j = ⟨s, j, none⟩ := by simp [Addr.add]; omega
      rw [hadd]
      rw [List.getElem?_map] at hj
      obtain ⟨t, ht, rfl⟩ := Option.map_eq_some_iff.1 hj
      obtain ⟨hj', rfl⟩ := List.getElem?_eq_some_iff.1 ht
      exact hx j hj') (by
      intro u hu
      obtain ⟨t, _, rfl⟩ := List.mem_map.1 hu
      rfl) (by unfold maxLen; omega) (by omega) hbase
  rw [Nat.zero_add, List.nil_append] at h2
  obtain ⟨g, cap, rfl, h5, h6, h7⟩ := wb_of_row h2 h0
  exact ⟨g, cap, w', h1, h5, h6, h7, h3⟩
end Go.Proofs.YtnfddblpenninaaDoor
