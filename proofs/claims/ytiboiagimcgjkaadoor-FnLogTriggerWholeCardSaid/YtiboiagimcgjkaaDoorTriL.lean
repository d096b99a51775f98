/- A writer that holds lines back: texts within others; the texts of lines. -/
import Derived.Test.YtiboiagimcgjkaaDoorTriK
namespace Go.Proofs.YtiboiagimcgjkaaDoor
open Go.RowKit

/-- The texts of row p. -/
def TextsAt (w : World) (p : Option Addr) (l : List (List UInt8)) : Prop := ∀ i u, l[i]? = some u → ∃ g, p = some ⟨g, 0, none⟩ ∧ w.cell? ⟨g, i, none⟩ = some (str u)
theorem texts_of_own {w : World} {base k c : Nat} {p : Option Addr} {rows : List (List UInt8)} (h : w.ownsRow base 9 1 (.slice p k c) k (rows.map str)) : TextsAt w p rows := fun i u hu => by
  have hl : (rows.map str).length = k * 1 := h.1
  rw [List.length_map] at hl
  have hi := (List.getElem?_eq_some_iff.1 hu).1
  obtain ⟨g, e, q⟩ := text_cells h (by omega)
  exact ⟨g, e, q i u hu⟩
theorem TextsAt.drewN {w : World} {p : Option Addr} {l : List (List UInt8)} (h : TextsAt w p l) (d : Nat) : TextsAt (w.drewN d) p l := h
theorem str_ne {a b : List UInt8} (h : a ≠ b) : (((⟨a.toArray⟩ : ByteArray).toList == (⟨b.toArray⟩ : ByteArray).toList) = false) := by
  rw [Lib.toList_data, Lib.toList_data]
  exact beq_false_of_ne h
theorem sub_skip {x y : List UInt8} {a b : List (List UInt8)} (h : (x :: a).Sublist (y :: b)) (hne : y ≠ x) : (x :: a).Sublist b := by
  cases h with
  | cons _ h => exact h
  | cons_cons _ h => exact absurd rfl hne
theorem sub_take {x : List UInt8} {a b : List (List UInt8)} (h : (x :: a).Sublist (x :: b)) : a.Sublist b := List.Sublist.of_cons_cons h

set_option maxRecDepth 100000 in
set_option maxHeartbeats 4000000 in
theorem within_yes (a b : List (List UInt8)) (pa pb : Option Addr) (na ca nb cb : Nat) (w : World) (ha : TextsAt w pa a) (hb : TextsAt w pb b) (hna : a.length = na) (hnb : b.length = nb) (hs : a.Sublist b) (h1 : nb ≤ 1000) :
    Calls Tryd.prog 12 #[.slice pa na ca, .slice pb nb cb] w fun e w' => e = .returned (.bool true) ∧ Below w.heap.size w w' := by
  have hle : na ≤ nb := by rw [← hna, ← hnb]; exact hs.length_le
  have HA := Lib.hid (And.intro ha (And.intro hna (And.intro hb hnb)))
  have HS := Lib.hid hs
  clear ha hb hna hnb hs
  go_enter Tryd.func12, Tryd.ntmps12
  go_wp2_with fail
  go_loopw [5, 10] (fun t i wr => ∃ q z : Nat, i = .int .i64 q ∧ t = .int .i64 z ∧ q ≤ na ∧ z ≤ nb ∧ Hid ((a.drop q).Sublist (b.drop z)) ∧ ∃ d : Nat, wr = w.drewN d) (fun _ i _ => na - (intOf i).toNat)
  case atStart => exact ⟨0, 0, rfl, rfl, Nat.zero_le _, Nat.zero_le _, HS, 0, rfl⟩
  case round =>
    obtain ⟨q, z, rfl, rfl, hq, hz, HQ, d, rfl⟩ := hrel
    by_cases hqn : q < na
    · obtain ⟨x, hx⟩ : ∃ x, a[q]? = some x := ⟨_, List.getElem?_eq_getElem (by rw [HA.out.2.1]; exact hqn)⟩
      obtain ⟨ga, rfl, hca⟩ := HA.out.1 q x hx
      unfold str at hca
      have hd : a.drop q = x :: a.drop (q + 1) := by
        have hql := (List.getElem?_eq_some_iff.1 hx).1
        rw [List.drop_eq_getElem_cons hql]
        congr 1
        exact Option.some.inj ((List.getElem?_eq_getElem hql).symm.trans hx)
      have HD := Lib.hid hd
      clear hd hx
      obtain ⟨tx, htx⟩ : ∃ t : ByteArray, t = ⟨x.toArray⟩ := ⟨_, rfl⟩
      rw [← htx] at hca
      have HTX := Lib.hid htx
      clear htx
      go_wp2_with fail
      go_loopw [5] (fun t wr => ∃ y : Nat, t = .int .i64 y ∧ y ≤ nb ∧ Hid ((a.drop q).Sublist (b.drop y)) ∧ ∃ d : Nat, wr = w.drewN d) (fun t _ => nb - (intOf t).toNat)
      case atStart => exact ⟨z, rfl, hz, HQ, d, rfl⟩
      case round =>
        obtain ⟨y, rfl, hy, HY, d2, rfl⟩ := hrel
        have hyb : y < nb := by
          have h := HY.out.length_le
          rw [HD.out, List.length_cons, List.length_drop, List.length_drop] at h
          have := HA.out.2.2.2
          omega
        obtain ⟨u, hu⟩ : ∃ u, b[y]? = some u := ⟨_, List.getElem?_eq_getElem (by rw [HA.out.2.2.2]; exact hyb)⟩
        obtain ⟨gb, rfl, hcb⟩ := HA.out.2.2.1 y u hu
        unfold str at hcb
        have hd : b.drop y = u :: b.drop (y + 1) := by
          have hyl := (List.getElem?_eq_some_iff.1 hu).1
          rw [List.drop_eq_getElem_cons hyl]
          congr 1
          exact Option.some.inj ((List.getElem?_eq_getElem hyl).symm.trans hu)
        have hsub := HY.out
        rw [HD.out, hd] at hsub
        obtain ⟨tu, htu⟩ : ∃ t : ByteArray, t = ⟨u.toArray⟩ := ⟨_, rfl⟩
        rw [← htu] at hcb
        by_cases hux : u = x
        · have heq : (tu.toList == tx.toList) = true := by
            rw [htu, HTX.out, hux]
            simp
          have heq2 : (tu.toList != tx.toList) = false := by
            rw [htu, HTX.out, hux]
            simp
          have hnext : (a.drop (q + 1)).Sublist (b.drop (y + 1)) := by
            rw [hux] at hsub
            exact sub_take hsub
          have HN := Lib.hid hnext
          clear hnext hsub hd hu htu hux
          go_wp2_with fail
          exact ⟨⟨q + 1, y + 1, by go_num, by go_num, by omega, by omega, HN, d2, rfl⟩, by simp [intOf]; omega⟩
        · have heq : (tu.toList == tx.toList) = false := by
            rw [htu, HTX.out]
            exact str_ne hux
          have heq2 : (tu.toList != tx.toList) = true := by
            rw [bne, heq]
            rfl
          have hnext : (a.drop q).Sublist (b.drop (y + 1)) := by
            rw [HD.out]
            exact sub_skip hsub hux
          have HN := Lib.hid hnext
          clear hnext hsub hd hu htu hux
          go_wp2_with fail
          exact ⟨⟨y + 1, by go_num, by omega, HN, d2, rfl⟩, by simp [intOf]; omega⟩
    · obtain rfl : q = na := by omega
      go_wp2_with fail
      go_ret
      exact ⟨rfl, below_drewN (Below.refl _ _) _⟩

theorem str_one (l : List UInt8) : (str l).oneCell' = true := rfl
set_option maxRecDepth 100000 in
set_option maxHeartbeats 4000000 in
/-- The texts of lines, in a row of the call's own. -/
theorem texts_walk (m oc : Nat) (ap : Option Addr) (ops : Nat → LineOp) (w : World) (hm : m ≤ 1000) (hop : OpsAt w ap m ops) :
    Calls Tryd.prog 13 #[.slice ap m oc] w fun e w' => TriEnd w (textsOf ops m) e w' ∧ Below w.heap.size w w' := by
  obtain ⟨i0, hi0, hz0, hz1, hz2⟩ := info_parts Tryd.info9
  have HO := Lib.hid hop
  clear hop
  go_enter Tryd.func13, Tryd.ntmps13
  go_wp2_with fail
  go_loopw [3, 8] (fun v i wr => ∃ q : Nat, i = .int .i64 q ∧ q ≤ m ∧ Hid (wr.ownsRow w.heap.size 9 1 v q ((textsOf ops q).map str) ∧ Below w.heap.size w wr)) (fun _ i _ => m - (intOf i).toNat)
  case atStart => exact ⟨0, rfl, Nat.zero_le _, Lib.hid ⟨⟨rfl, .inl ⟨rfl, rfl⟩⟩, Below.refl _ _⟩⟩
  case round =>
    obtain ⟨q, rfl, hq, HQ⟩ := hrel
    by_cases hqm : q < m
    · have hsz := HQ.out.2.size
      obtain ⟨tq, htq⟩ : ∃ t : ByteArray, t = ⟨(ops q).tx.toArray⟩ := ⟨_, rfl⟩
      obtain ⟨gb, go, rfl, hob, hoq⟩ := HO.out q hqm
      have hx := op_below HQ.out.2 hob hoq
      clear hoq
      obtain ⟨x0, x1, x2, x3⟩ := hx
      unfold str at x1
      rw [← htq] at x1
      generalize (ops q).lv = lq at x0
      generalize (ops q).tr = tr at x2
      generalize (ops q).cl = cl at x3
      have HTQ := Lib.hid htq
      clear htq
      go_wp2_with (first | (at_builtin; go_loud (refine wpList_append_lies _ rfl _ _ 28 rfl w.heap.size 9 i0 _ 1 16 Tryd.underlying28 hi0 hz0 hz1 hz2 rfl (by omega) _ q _ rfl ((HQ.out.1.alloc _).alloc _) ⟨wr.heap.size + 1, 0, none⟩ 1 1 [.string tq] rfl rfl (World.news_of_block (cs := #[.string tq]) (t := 9) (fr := (0, 0)) (alloc_two wr _ _)) (by simp [Value.oneCell']) (by omega) (by unfold maxLen; omega) (by omega) (by simp; omega) (wr.heap.size + 2) (by simp) ?_); intro g3 cap3 w3 hown3 hgrow3 hat3 hlt3; have H3 := Lib.hid (And.intro hown3 hgrow3); clear hown3 hgrow3 hat3))
      go_roundw
      case rel =>
        obtain ⟨hown3, hgrow3⟩ := H3.out
        have k3 : Keeps (fun g => w.heap.size ≤ g) wr w3 := (((Keeps.refl _ wr).alloc _).alloc _).trans (Keeps.of_grown hgrow3 (fun k hk => (own_typed HQ.out.1 hk).2))
        refine ⟨q + 1, by go_num, by omega, Lib.hid ⟨?_, HQ.out.2.trans (k3.below hsz (fun _ h => h))⟩⟩
        have : (textsOf ops (q + 1)).map str = (textsOf ops q).map str ++ [.string tq] := by
          rw [textsOf, List.map_append, HTQ.out]
          rfl
        rw [this]
        exact hown3
      case measure => simp [intOf]; omega
    · obtain rfl : q = m := by omega
      obtain ⟨p, c, hv, _⟩ := own_form HQ.out.1
      subst hv
      go_wp2_with fail
      go_ret
      refine ⟨⟨p, c, ?_, ?_⟩, HQ.out.2⟩
      · rw [textsOf_len]
        rfl
      · rw [textsOf_len]
        exact HQ.out.1
end Go.Proofs.YtiboiagimcgjkaaDoor
