/- A number in decimal: the walk. -/
import Derived.Test.YtnfddblpenninaaDoorFixR
import Derived.OwnWalk
import Derived.Test.YtnfddblpenninaaDoorGixC
namespace Go.Proofs.YtnfddblpenninaaDoor
open Go.RowKit

/-- Words in a block of the call's own. -/
def NW (w : World) (g : Nat) (l : List Nat) : Prop :=
  g < w.heap.size ∧ (∀ i (h : i < l.length), w.cell? ⟨g, i, none⟩ = some (wordV l[i])) ∧ ∀ i, i < l.length → w.frozen? ⟨g, i, none⟩ = false
theorem NW.set {w : World} {g : Nat} {l : List Nat} (h : NW w g l) (k c : Nat) (hk : k < l.length) : NW (w.setCell ⟨g, k, none⟩ (wordV c)) g (l.set k c) := by
  refine ⟨?_, fun i hi => ?_, fun i hi => ?_⟩
  · have := h.1
    simpa [World.setCell] using this
  · have hi' : i < l.length := by simpa using hi
    by_cases hik : i = k
    · subst hik
      rw [World.cell?_setCell_same (h := h.2.1 i hi')]
      simp
    · rw [World.cell?_setCell_other w _ _ _ (fun e => hik (by injection e; omega))]
      rw [h.2.1 i hi']
      rw [List.getElem_set_ne (fun e => hik e.symm)]
  · have hi' : i < l.length := by simpa using hi
    have := h.2.2 i hi'
    simpa using this
theorem NW.below {w w' : World} {g : Nat} {l : List Nat} (h : NW w g l) (hb : Below w.heap.size w w') : NW w' g l :=
  ⟨Nat.lt_of_lt_of_le h.1 hb.size, fun i hi => (hb.cell (p := ⟨g, i, none⟩) h.1).trans (h.2.1 i hi), fun i hi => (hb.frozen (p := ⟨g, i, none⟩) h.1).trans (h.2.2 i hi)⟩
set_option maxRecDepth 100000 in
/-- A number copied. -/
theorem copy_nat (w : World) (p : Option Addr) (cp : Nat) (xs : List Nat) (h : NatAt w p xs) (n : Nat) (hn : xs.length = n) (hn1 : n ≤ 1000) :
    ∃ g c w', (Builtin.append_ #[31, 31] 31 #[.slice (some ⟨w.heap.size, 0, none⟩) 0 0, .slice p n cp]).run Tryd.prog (w.alloc (.cells #[] 40)) = .ok (.slice (some ⟨g, 0, none⟩) n c) w' ∧ NW w' g xs ∧ n ≤ c ∧ w.heap.size ≤ g ∧ Below w.heap.size w w' := by
  obtain ⟨i0, hi0, hz1, hz0, hz2⟩ := info40
  have hB : Below w.heap.size w (w.alloc (.cells #[] 40)) := (Below.refl w.heap.size w).alloc (Nat.le_refl _) _
  subst hn
  rcases Nat.eq_zero_or_pos xs.length with h0 | h0
  · obtain rfl := List.length_eq_zero_iff.1 h0
    have hown : (w.alloc (.cells #[] 40)).ownsRow w.heap.size 40 1 (.slice (some ⟨w.heap.size, 0, none⟩) 0 0) 0 [] := World.ownsRow_lit w #[] 0 (Nat.le_refl _) (by unfold maxLen; omega) rfl
    have hN : NW (w.alloc (.cells #[] 40)) w.heap.size [] := ⟨by simp, fun i hi => by simp at hi, fun i hi => by simp at hi⟩
    cases p with
    | none =>
      refine ⟨w.heap.size, 0, w.alloc (.cells #[] 40), ?_, hN, Nat.le_refl _, Nat.le_refl _, hB⟩
      simp [Builtin.append_, run_underlying Tryd.underlying31, sizeOf, typeInfo, hi0, Builtin.lenOf, Builtin.firstCells, storeCells]
    | some a =>
      obtain ⟨v', w', h1, h2, h3, h4, h5⟩ := run_append_own_at (P := Tryd.prog) (w.alloc (.cells #[] 40)) w.heap.size 31 31 40 i0 _ 1 4 Tryd.underlying31 hi0 hz0 hz1 hz2 rfl (by omega) _ 0 [] hown a 0 cp [] rfl (fun j u hj => by simp at hj) (fun u hu => by simp at hu) (by unfold maxLen; omega) (by omega) (by simp)
      rcases h2.2 with ⟨rfl, _⟩ | ⟨g, cap, cur, rfl, hb, hgg, hnc, _, hsz, htk⟩
      · exact absurd (h4.1 rfl).1 (by simp)
      · refine ⟨g, cap, w', h1, ⟨(Array.getElem?_eq_some_iff.1 hgg).1, fun i hi => by simp at hi, fun i hi => by simp at hi⟩, Nat.zero_le _, hb, hB.trans (below_grown h3 (fun g' hg' => by simp [Value.ownBlock] at hg'; omega) (by simp))⟩
  · obtain ⟨g0, rfl, hg0, _⟩ := h.2 0 h0
    have hown : (w.alloc (.cells #[] 40)).ownsRow w.heap.size 40 1 (.slice (some ⟨w.heap.size, 0, none⟩) 0 0) 0 [] := World.ownsRow_lit w #[] 0 (Nat.le_refl _) (by unfold maxLen; omega) rfl
    obtain ⟨v', w', h1, h2, h3, h4, h5⟩ := run_append_own_at (P := Tryd.prog) (w.alloc (.cells #[] 40)) w.heap.size 31 31 40 i0 _ 1 4 Tryd.underlying31 hi0 hz0 hz1 hz2 rfl (by omega) _ 0 [] hown ⟨g0, 0, none⟩ xs.length cp (xs.map wordV) (by simp) (fun j u hj => by
        rw [List.getElem?_map] at hj
        obtain ⟨t, ht, rfl⟩ := Option.map_eq_some_iff.1 hj
        obtain ⟨hj', rfl⟩ := List.getElem?_eq_some_iff.1 ht
        obtain ⟨g1, he, hg1, hc⟩ := h.2 j hj'
        injection he with he
        injection he with he
        subst he
        rw [show (⟨g0, 0, none⟩ : Addr).add j = ⟨g0, j, none⟩ by simp [Addr.add]; intro h; exact h.symm]
        exact (hB.cell (p := ⟨g0, j, none⟩) hg0).trans hc) (fun u hu => by
        obtain ⟨c, _, rfl⟩ := List.mem_map.1 hu
        rfl) (by unfold maxLen; omega) (by omega) (by simp)
    rw [Nat.zero_add, List.nil_append] at h2
    rcases h2.2 with ⟨rfl, h0'⟩ | ⟨g, cap, cur, rfl, hb, hgg, hnc, _, hsz, htk⟩
    · omega
    · have hw : Whole w' g 40 cur := hgg
      refine ⟨g, cap, w', h1, ⟨hw.lt, fun i hi => ?_, fun i _ => hw.frozen i⟩, hnc, hb, hB.trans (below_grown h3 (fun g' hg' => by simp [Value.ownBlock] at hg'; omega) (by simp))⟩
      rw [hw.cell]
      have h6 := congrArg (·[i]?) htk
      simp only [List.getElem?_map, List.getElem?_eq_getElem hi, Option.map_some] at h6
      rw [List.getElem?_take_of_lt (by omega)] at h6
      simpa using h6
theorem bb_one (W : World) (c : UInt8) (v : Int) (hv : v = (c.toNat : Int)) : BB (W.alloc (.cells #[.int .u8 v] 5)) W.heap.size [c] := by
  subst hv
  refine ⟨by simp, fun i hi => ?_, fun i hi => ?_⟩
  · obtain rfl : i = 0 := by simp at hi; omega
    rw [(Whole.new W 5 _).cell]
    rfl
  · exact (Whole.new W 5 _).frozen i
theorem str_of {s : ByteArray} {l : List UInt8} (h : s.data.toList = l) : s = ⟨l.toArray⟩ := by
  subst h
  rfl
def szOf : Value → Nat
  | .string s => s.size
  | _ => 0
theorem dec_small {u : Nat} (h : u < 10) : Lib.decDigits u = [UInt8.ofNat (48 + u)] := by rw [Lib.decDigits]; exact dif_pos h
theorem dec_ten {u : Nat} (h : 10 ≤ u) : Lib.decDigits u = Lib.decDigits (u / 10) ++ [UInt8.ofNat (48 + u % 10)] := by
  conv => lhs; rw [Lib.decDigits]
  exact dif_neg (by omega)
/-- What the inner loop has done down to word i. -/
def Down (w wr : World) (g : Nat) (xs : List Nat) (n i : Nat) (r : Nat) (sm : Bool) : Prop :=
  ∃ qs : List Nat, qs.length = n - i ∧ (∀ x ∈ qs, x < 4294967296) ∧ wval qs = wval (xs.drop i) / 10 ∧ r = wval (xs.drop i) % 10 ∧ sm = decide (wval (xs.drop i) / 10 ≠ 0) ∧ NW wr g (xs.take i ++ qs) ∧ Keeps (fun b => b = g) w wr
theorem drop_val {xs : List Nat} {i : Nat} (h : i < xs.length) : wval (xs.drop i) = xs[i] + 4294967296 * wval (xs.drop (i + 1)) := by
  rw [List.drop_eq_getElem_cons h]
  rfl
theorem Down.next {w wr : World} {g : Nat} {xs : List Nat} {n i r : Nat} {sm : Bool} (h : Down w wr g xs n (i + 1) r sm) (hn : xs.length = n) (hi : i < n) (x : Nat) (hx : x = xs[i]) (hx32 : x < 4294967296) :
    Down w (wr.setCell ⟨g, i, none⟩ (wordV ((r * 4294967296 + x) / 10))) g xs n i ((r * 4294967296 + x) % 10) (sm || decide ((r * 4294967296 + x) / 10 ≠ 0)) := by
  obtain ⟨qs, h1, h2, h3, h4, h5, h6, h7⟩ := h
  have hv := drop_val (xs := xs) (i := i) (by omega)
  rw [← hx] at hv
  obtain ⟨t, ht⟩ : ∃ t, t = wval (xs.drop (i + 1)) := ⟨_, rfl⟩
  rw [← ht] at h3 h4 h5 hv
  obtain ⟨V, hV⟩ : ∃ V, V = wval (xs.drop i) := ⟨_, rfl⟩
  rw [← hV] at hv
  refine ⟨(r * 4294967296 + x) / 10 :: qs, by simp; omega, ?_, ?_, ?_, ?_, ?_, h7.set (.inl rfl) _⟩
  · intro y hy
    rcases List.mem_cons.1 hy with rfl | hy
    · omega
    · exact h2 y hy
  · show (r * 4294967296 + x) / 10 + 4294967296 * wval qs = _
    rw [h3, ← hV]
    omega
  · rw [← hV]
    omega
  · rw [← hV, h5, Bool.eq_iff_iff]
    simp
    omega
  · have hl : (xs.take (i + 1)).length = i + 1 := by rw [List.length_take]; omega
    have hs := h6.set i ((r * 4294967296 + x) / 10) (by rw [List.length_append, hl]; omega)
    have he : (xs.take (i + 1) ++ qs).set i ((r * 4294967296 + x) / 10) = xs.take i ++ (r * 4294967296 + x) / 10 :: qs := by
      rw [List.take_succ_eq_append_getElem (by omega), List.append_assoc, List.set_append_right _ _ (by rw [List.length_take]; omega)]
      congr 1
      rw [List.length_take, show i - min i xs.length = 0 by omega]
      rfl
    rw [he] at hs
    exact hs
theorem or_words (r x : Nat) (hr : r ≤ 9) (hx : x < 4294967296) : bits .or .u64 ((r : Int) * 4294967296) (x : Int) = ((r * 4294967296 + x : Nat) : Int) := by
  have := bits_or_u64_nat (r * 4294967296) x (by omega) (by omega)
  have h := Nat.two_pow_add_eq_or_of_lt (i := 32) (b := x) hx r
  rw [show 2 ^ 32 * r = r * 4294967296 by omega] at h
  rw [← h] at this
  rw [← this]
  congr 1
set_option maxRecDepth 100000 in
set_option maxHeartbeats 4000000 in
theorem decimal_digs (p : Option Addr) (cp : Nat) (xs : List Nat) (n : Nat) (w : World) (h : NatAt w p xs) (hn : xs.length = n) (hn1 : n ≤ 1000) (hK : (Lib.decDigits (wval xs)).length ≤ 100000) :
    Calls Tryd.prog 23 #[.slice p n cp] w fun e w' => e = .returned (.string ⟨(Lib.decDigits (wval xs)).toArray⟩) ∧ Below w.heap.size w w' := by
  obtain ⟨g, c, w2, h1, h2, h3, h4, h5⟩ := copy_nat w p cp xs h n hn hn1
  obtain ⟨T, hT⟩ : ∃ T : ByteArray, T = ⟨(Lib.decDigits (wval xs)).toArray⟩ := ⟨_, rfl⟩
  have HT := Lib.hid hT
  rw [← hT]
  clear hT
  have H := Lib.hid (And.intro h2 (And.intro h4 (And.intro h5 (And.intro hn h.1))))
  clear h2 h4 h5 h hn
  go_enter Tryd.func23, Tryd.ntmps23
  go_upto_region 3 with (first | (at_builtin; refine wpList_app rfl _ _ 31 31 rfl _ _ _ rfl rfl h1 ?_))
  clear h1
  go_loopw [3] (fun v3 wr => ∃ (s : ByteArray), v3 = .string s ∧ Hid (∃ ys, NW wr g ys ∧ ys.length = n ∧ (∀ x ∈ ys, x < 4294967296) ∧ Lib.decDigits (wval xs) = Lib.decDigits (wval ys) ++ s.data.toList ∧ Below w.heap.size w wr)) (fun v3 _ => (Lib.decDigits (wval xs)).length - szOf v3)
  case atStart => exact ⟨⟨#[]⟩, rfl, Lib.hid ⟨xs, H.out.1, H.out.2.2.2.1, H.out.2.2.2.2, by simp, H.out.2.2.1⟩⟩
  case round =>
    obtain ⟨s, rfl, hM⟩ := hrel
    obtain ⟨ys, a1, a2, a3, a4, a5⟩ := hM.out
    obtain ⟨wo, hwo⟩ : ∃ wo, wo = wr := ⟨_, rfl⟩
    subst hwo
    have hgb := H.out.2.1
    have HA := Lib.hid (And.intro a1 (And.intro a2 (And.intro a3 (And.intro a4 a5))))
    clear hM a1 a2 a3 a4 a5
    go_wp2_with fail
    go_loopw [4, 5, 6] (fun vr vs vi wr => ∃ (i r : Nat) (sm : Bool) (v : Int), vi = .int .i64 v ∧ v = (i : Int) - 1 ∧ i ≤ n ∧ vr = .int .u64 (r : Int) ∧ r ≤ 9 ∧ vs = .bool sm ∧ Hid (Down wo wr g ys n i r sm)) (fun _ _ vi _ => (intOf vi + 1).toNat)
    case atStart =>
      refine ⟨n, 0, false, _, rfl, rfl, Nat.le_refl _, rfl, by omega, rfl, Lib.hid ⟨[], by simp, fun x hx => by simp at hx, ?_, ?_, ?_, ?_, Keeps.refl _ _⟩⟩
      · rw [List.drop_of_length_le (by rw [HA.out.2.1]; exact Nat.le_refl _)]
        rfl
      · rw [List.drop_of_length_le (by rw [HA.out.2.1]; exact Nat.le_refl _)]
        rfl
      · rw [List.drop_of_length_le (by rw [HA.out.2.1]; exact Nat.le_refl _)]
        rfl
      · rw [List.take_of_length_le (by rw [HA.out.2.1]; exact Nat.le_refl _), List.append_nil]
        exact HA.out.1
    case round =>
      obtain ⟨i, r, sm, v, rfl, hv, hi, rfl, hr9, rfl, hD⟩ := hrel
      rcases i with _ | i
      · obtain rfl : v = -1 := by omega
        clear hv
        obtain ⟨y, hy⟩ : ∃ y, y = wval ys := ⟨_, rfl⟩
        obtain ⟨qs, q1, q2, q3, q4, q5, q6, q7⟩ := hD.out
        rw [List.drop_zero, ← hy] at q3 q4 q5
        rw [List.take_zero, List.nil_append] at q6
        have hb := HA.out.2.2.2.2.trans (q7.below (B := w.heap.size) (by have := HA.out.2.2.2.2.size; exact this) (by rintro b rfl; exact hgb))
        have HQ := Lib.hid (And.intro q1 (And.intro q2 (And.intro q3 (And.intro q4 (And.intro q6 (And.intro hb hy))))))
        clear q1 q2 q3 q4 q6 q7 hb hD hy
        obtain ⟨ds, hds⟩ : ∃ ds : ByteArray, ds = ⟨#[UInt8.ofNat (48 + r)]⟩ := ⟨_, rfl⟩
        have HDS := Lib.hid hds
        have hcv : (convert 45 9 (.slice (some ⟨wr.heap.size, 0, none⟩) 1 1)).run Tryd.prog (wr.alloc (.cells #[.int .u8 (48 + (r : Int))] 5)) = .ok (.string ds) (wr.alloc (.cells #[.int .u8 (48 + (r : Int))] 5)) := by
          rw [hds]
          exact conv_string (bb_one wr (UInt8.ofNat (48 + r)) _ (by rw [digit_nat r (by omega)]; omega)) 1 1 rfl
        have hd1 : ds.size ≤ 1 := by rw [hds]; exact Nat.le_refl 1
        have hlen := congrArg List.length HA.out.2.2.2.1
        have hsz : s.size = s.data.toList.length := by simp
        rw [List.length_append] at hlen
        have hs9 : s.size ≤ 100000 := by
          have := hK
          omega
        have hpos : 0 < (Lib.decDigits (wval ys)).length := by
          rw [Lib.decDigits_length]
          exact Lib.nDigits_pos _
        clear hds
        by_cases h10 : y < 10
        · obtain rfl : sm = false := by rw [q5]; simp; omega
          clear q5 hlen hsz hpos
          have H10 := Lib.hid h10
          go_wp2_with fail
          go_returns
          refine ⟨?_, HQ.out.2.2.2.2.2.1.alloc HQ.out.2.2.2.2.2.1.size _⟩
          have h9 := HQ.out.2.2.2.1
          have : T = ds ++ s := by
            rw [HT.out, HA.out.2.2.2.1, ← HQ.out.2.2.2.2.2.2, dec_small H10.out, HDS.out, h9, Nat.mod_eq_of_lt H10.out]
            exact (str_of (by simp)).symm
          rw [this]
          rfl
        · obtain rfl : sm = true := by rw [q5]; simp; omega
          clear q5
          have H10 := Lib.hid h10
          have HLN := Lib.hid (And.intro hlen (And.intro hsz hpos))
          clear hlen hsz hpos h10
          go_wp2_with fail
          refine ⟨⟨ds ++ s, rfl, Lib.hid ⟨qs, HQ.out.2.2.2.2.1.below ((Below.refl wr.heap.size wr).alloc (Nat.le_refl _) _), by have := HQ.out.1; omega, HQ.out.2.1, ?_, HQ.out.2.2.2.2.2.1.alloc HQ.out.2.2.2.2.2.1.size _⟩⟩, ?_⟩
          · rw [HA.out.2.2.2.1, HQ.out.2.2.1, ← HQ.out.2.2.2.2.2.2, dec_ten (by have := H10.out; omega), HDS.out, ← HQ.out.2.2.2.1]
            simp
          · have h1 := HLN.out
            have h2 : ds.size = 1 := by rw [HDS.out]; rfl
            simp only [szOf, ByteArray.size_append]
            omega
      · obtain rfl : v = (i : Int) := by omega
        clear hv
        have hiy : i < ys.length := by rw [HA.out.2.1]; omega
        obtain ⟨x, hx⟩ : ∃ x, x = ys[i] := ⟨_, rfl⟩
        have hx32 : x < 4294967296 := by rw [hx]; exact HA.out.2.2.1 _ (List.getElem_mem _)
        have hN := Down.next hD.out HA.out.2.1 (by omega) x hx hx32
        obtain ⟨hc, hf⟩ : wr.cell? ⟨g, i, none⟩ = some (wordV x) ∧ wr.frozen? ⟨g, i, none⟩ = false := by
          obtain ⟨qs, q1, q2, q3, q4, q5, q6, q7⟩ := hD.out
          have hl : i < (ys.take (i + 1) ++ qs).length := by rw [List.length_append, List.length_take]; omega
          refine ⟨?_, q6.2.2 i hl⟩
          rw [q6.2.1 i hl, List.getElem_append_left (by rw [List.length_take]; omega), List.getElem_take, hx]
        replace hc : wr.cell? ⟨g, i, none⟩ = some (.int .u32 (x : Int)) := hc
        have hor := or_words r x hr9 hx32
        obtain ⟨R, hR⟩ : ∃ R, R = r * 4294967296 + x := ⟨_, rfl⟩
        rw [← hR] at hor hN
        have hR1 : R < 42949672960 := by omega
        have hin : i < n := by omega
        have HN := Lib.hid hN
        have hR2 : (R : Int) / 10 < 4294967296 := by omega
        clear hx hN hR hD hiy
        have e1 : wordV (R / 10) = .int .u32 ((R : Int) / 10) := by unfold wordV; congr 1
        have e2 : ((R : Int) / 10 != 0) = decide (R / 10 ≠ 0) := by
          rw [Bool.eq_iff_iff]
          simp
          omega
        have HE := Lib.hid (And.intro e1 e2)
        clear e1 e2
        cases sm
        · go_wp2_with fail
          refine ⟨⟨i, R % 10, _, (i : Int) - 1, rfl, rfl, by omega, by congr 1, by omega, rfl, Lib.hid ?_⟩, by simp [intOf]⟩
          have h := HN.out
          rw [HE.out.1, Bool.false_or] at h
          rw [HE.out.2]
          exact h
        · go_wp2_with fail
          refine ⟨⟨i, R % 10, _, (i : Int) - 1, rfl, rfl, by omega, by congr 1, by omega, rfl, Lib.hid ?_⟩, by simp [intOf]⟩
          have h := HN.out
          rw [HE.out.1] at h
          exact h
end Go.Proofs.YtnfddblpenninaaDoor
/- Small functions of the reference: a number in decimal, one more, with a sign: the walks. -/
namespace Go.Proofs.YtnfddblpenninaaDoor
open Go.RowKit

theorem dec_len (n k : Nat) (h : n < 10 ^ k) (hk : 1 ≤ k) : (Lib.decDigits n).length ≤ k := by
  rw [Lib.decDigits_length]
  rcases Nat.eq_zero_or_pos n with rfl | h0
  · rw [Lib.nDigits_small (by decide)]
    exact hk
  · have h1 := le_nDigits n h0
    refine Nat.le_of_not_lt fun hlt => ?_
    have h2 := Nat.pow_le_pow_right (by decide : 0 < 10) (by omega : k ≤ Lib.nDigits n - 1)
    omega
set_option maxRecDepth 100000 in
set_option maxHeartbeats 4000000 in
theorem unsigned_any (n : Nat) (h1 : n < 100000) (w : World) :
    Calls Tryd.prog 33 #[.int .u64 (n : Int)] w fun e w' => e = .returned (.string ⟨(Lib.decDigits n).toArray⟩) ∧ Below w.heap.size w w' := by
  obtain ⟨T, hT⟩ : ∃ T : ByteArray, T = ⟨(Lib.decDigits n).toArray⟩ := ⟨_, rfl⟩
  have HT := Lib.hid hT
  rw [← hT]
  clear hT
  go_enter Tryd.func33, Tryd.ntmps33
  go_wp2_with fail
  go_loopw [0, 3] (fun x m wr => ∃ (u : Nat) (s : ByteArray), x = .int .u64 (u : Int) ∧ m = .string s ∧ u < 100000 ∧ Hid (Lib.decDigits n = Lib.decDigits u ++ s.data.toList ∧ Below w.heap.size w wr)) (fun x _ _ => (intOf x).toNat)
  case atStart => exact ⟨n, ⟨#[]⟩, rfl, rfl, h1, Lib.hid ⟨by simp, Below.refl _ _⟩⟩
  case round =>
    obtain ⟨u, s, rfl, rfl, hu1, HR⟩ := hrel
    obtain ⟨ds, hds⟩ : ∃ ds : ByteArray, ds = ⟨#[UInt8.ofNat (48 + u % 10)]⟩ := ⟨_, rfl⟩
    have HD := Lib.hid hds
    have hcv : (convert 45 9 (.slice (some ⟨wr.heap.size, 0, none⟩) 1 1)).run Tryd.prog (wr.alloc (.cells #[.int .u8 (48 + (u : Int) % 10)] 5)) = .ok (.string ds) (wr.alloc (.cells #[.int .u8 (48 + (u : Int) % 10)] 5)) := by
      rw [hds]
      exact conv_string (bb_one wr (UInt8.ofNat (48 + u % 10)) _ (by rw [digit_nat (u % 10) (by omega)]; omega)) 1 1 rfl
    have hd1 : ds.size ≤ 1 := by rw [hds]; exact Nat.le_refl 1
    have hs19 : s.size ≤ 5 := by
      have h2 := congrArg List.length HR.out.1
      have h3 := dec_len n 5 h1 (by decide)
      have h4 : s.size = s.data.toList.length := by simp
      rw [List.length_append] at h2
      omega
    clear hds
    by_cases hu : u < 10
    · have hz : ((u : Int) / 10 == 0) = true := beq_iff_eq.2 (by omega)
      have HU := Lib.hid hu
      go_wp2_with fail
      go_returns
      refine ⟨?_, HR.out.2.alloc HR.out.2.size _⟩
      have : T = ds ++ s := by
        rw [HT.out, HR.out.1, dec_small HU.out, HD.out, Nat.mod_eq_of_lt HU.out]
        exact (str_of (by simp)).symm
      rw [this]
      rfl
    · have hz : ((u : Int) / 10 == 0) = false := beq_eq_false_iff_ne.2 (by omega)
      have HU := Lib.hid hu
      go_wp2_with fail
      refine ⟨⟨u / 10, ds ++ s, rfl, rfl, by omega, Lib.hid ⟨?_, HR.out.2.alloc HR.out.2.size _⟩⟩, by have := HU.out; simp [intOf]; omega⟩
      rw [HR.out.1, dec_ten (by have := HU.out; omega), HD.out]
      simp
/-- A number with its sign. -/
def sgnT (n : Int) : List UInt8 := if n < 0 then [45] else []
set_option maxRecDepth 100000 in
theorem signed_any (n : Int) (h1 : -100000 < n) (h2 : n < 100000) (w : World) :
    Calls Tryd.prog 26 #[.int .i64 n] w fun e w' => e = .returned (.string ⟨(sgnT n ++ Lib.decDigits n.natAbs).toArray⟩) ∧ Below w.heap.size w w' := by
  obtain ⟨T, hT⟩ : ∃ T : ByteArray, T = ⟨(sgnT n ++ Lib.decDigits n.natAbs).toArray⟩ := ⟨_, rfl⟩
  have HT := Lib.hid hT
  rw [← hT]
  clear hT
  obtain ⟨a, ha⟩ : ∃ a, a = n.natAbs := ⟨_, rfl⟩
  rw [← ha] at HT
  have C := Lib.hid (unsigned_any a (by omega) w)
  obtain ⟨U, hU⟩ : ∃ U : ByteArray, U = ⟨(Lib.decDigits a).toArray⟩ := ⟨_, rfl⟩
  have hUs : U.size ≤ 5 := by
    have := dec_len a 5 (by omega) (by decide)
    rw [hU]
    show (Lib.decDigits a).toArray.size ≤ 5
    simpa using this
  have HU := Lib.hid hU
  rw [← hU] at C
  clear hU
  rcases Int.lt_or_le n 0 with h0 | h0
  · obtain rfl : n = -(a : Int) := by omega
    have hT2 : T = ⟨#[45]⟩ ++ U := by
      rw [HT.out, HU.out, sgnT, if_pos h0]
      exact (str_of (by simp)).symm
    have HT2 := Lib.hid hT2
    have ha0 : 0 < a := by omega
    clear hT2 ha h0
    have hneg : decide (-(a : Int) < 0) = true := by simp; omega
    have hw : IntKind.u64.wrap (-IntKind.u64.wrap (-(a : Int))) = (a : Int) := by rw [IntKind.wrap_u64, IntKind.wrap_u64]; omega
    go_enter Tryd.func26, Tryd.ntmps26
    go_wp2_with (go_at_call 33; (with_reducible refine C.out.mono ?_); rintro e1 w1 ⟨rfl, hb⟩; have HB := Lib.hid hb; clear hb)
    go_returns
    exact ⟨by rw [HT2.out]; rfl, HB.out⟩
  · have hna : (a : Int) = n := by omega
    rw [hna] at C
    have hT2 : T = U := by
      rw [HT.out, HU.out, sgnT, if_neg (by omega)]
      rfl
    have HT2 := Lib.hid hT2
    clear hT2 ha hna
    go_enter Tryd.func26, Tryd.ntmps26
    go_wp2_with (go_at_call 33; refine C.out.mono ?_; rintro e1 w1 ⟨rfl, hb⟩; have HB := Lib.hid hb; clear hb)
    go_returns
    exact ⟨by rw [HT2.out]; rfl, HB.out⟩
/-- What the loop of 'up' holds. -/
def UpAt (w wr : World) (n g : Nat) (l : List UInt8) : Prop := IsDig l ∧ l.length = n ∧ BB wr g l ∧ Below w.heap.size w wr
theorem isDig_set {l : List UInt8} (h : IsDig l) (i : Nat) (c : UInt8) (hc : 48 ≤ c.toNat ∧ c.toNat ≤ 57) : IsDig (l.set i c) := fun x hx => by
  rcases List.mem_or_eq_of_mem_set hx with h1 | rfl
  · exact h x h1
  · exact hc
/-- One more, or what is like it: digits. -/
def UpEnd (w : World) (n : Nat) (e : Ending) (w' : World) : Prop := ∃ m : List UInt8, (e = .returned (.string ⟨m.toArray⟩) ∧ IsDig m ∧ n ≤ m.length ∧ m.length ≤ n + 1) ∧ Below w.heap.size w w'
set_option maxRecDepth 100000 in
set_option maxHeartbeats 4000000 in
theorem up_any (s : ByteArray) (l : List UInt8) (hs : s.data.toList = l) (hl : IsDig l) (n : Nat) (hn : l.length = n) (hn1 : n ≤ 1000) (w : World) :
    Calls Tryd.prog 24 #[.string s] w (UpEnd w n) := by
  have hsz : s.size = n := by rw [size_of hs, hn]
  have hcv := conv_bytes s w
  have hbb := BB.conv w s
  rw [hs] at hbb
  have hb2 := Joins.below_bytesWorld w.heap.size w 5 s (Nat.le_refl _)
  obtain ⟨w2, hw2⟩ : ∃ w2, w2 = Lib.bytesWorld w 5 s := ⟨_, rfl⟩
  obtain ⟨K, hK⟩ : ∃ K, K = grownCap w s.size 0 5 := ⟨_, rfl⟩
  rw [hsz] at hcv hK
  rw [← hK, ← hw2] at hcv
  rw [← hw2] at hbb hb2
  have HB := Lib.hid (And.intro hl (And.intro hn (And.intro hbb hb2)))
  obtain ⟨g, hg⟩ : ∃ g, g = w.heap.size := ⟨_, rfl⟩
  rw [← hg] at hcv
  have HG := Lib.hid hg
  clear hs hl hn hsz hbb hb2 hw2 hK hg
  go_enter Tryd.func24, Tryd.ntmps24
  go_wp2_with fail
  clear hcv
  go_loopw [4] (fun vi wr => ∃ (i : Nat) (v : Int), vi = .int .i64 v ∧ v = (i : Int) - 1 ∧ i ≤ n ∧ Hid (∃ l, UpAt w wr n g l)) (fun vi _ => (intOf vi + 1).toNat)
  case atStart => exact ⟨n, _, rfl, rfl, Nat.le_refl _, Lib.hid ⟨l, HB.out.1, HB.out.2.1, by rw [HG.out]; exact HB.out.2.2.1, HB.out.2.2.2⟩⟩
  case round =>
    obtain ⟨i, v, rfl, hv, hi, hM⟩ := hrel
    obtain ⟨l1, u1, u2, u3, u4⟩ := hM.out
    rcases i with _ | i
    · obtain rfl : v = -1 := by omega
      clear hv
      have hcv := conv_string u3 n K u2
      obtain ⟨M, hMM⟩ : ∃ M : ByteArray, M = ⟨l1.toArray⟩ := ⟨_, rfl⟩
      have hMs : M.size ≤ 1000 := by
        rw [hMM]
        show l1.toArray.size ≤ 1000
        rw [List.size_toArray]
        omega
      rw [← hMM] at hcv
      have HM := Lib.hid (And.intro hMM (And.intro u1 (And.intro u2 u4)))
      clear hMM u1 u2 u3 u4 hM
      go_wp2_with fail
      go_returns
      refine ⟨49 :: l1, ⟨?_, fun c hc => ?_, by rw [List.length_cons, HM.out.2.2.1]; omega, by rw [List.length_cons, HM.out.2.2.1]; omega⟩, HM.out.2.2.2⟩
      · have e : (⟨#[49]⟩ : ByteArray) ++ M = ⟨(49 :: l1).toArray⟩ := by
          rw [HM.out.1]
          exact str_of (by simp)
        exact congrArg (fun b => Ending.returned (.string b)) e
      · rcases List.mem_cons.1 hc with rfl | hc
        · decide
        · exact HM.out.2.1 c hc
    · obtain rfl : v = (i : Int) := by omega
      clear hv
      have hil : i < l1.length := by omega
      have hc := u3.cell i hil
      have hf := u3.frozen i hil
      have hd := u1 l1[i] (List.getElem_mem _)
      obtain ⟨y, hy⟩ : ∃ y, y = l1[i].toNat := ⟨_, rfl⟩
      rw [← hy] at hc hd
      have hin : i < n := by omega
      by_cases h57 : y = 57
      · subst h57
        have hb := u3.set i 48 48 rfl hil
        have hds := isDig_set u1 i 48 (by decide)
        have HU := Lib.hid (And.intro hb (And.intro hds (And.intro u2 u4)))
        have hgb : w.heap.size ≤ g := by rw [HG.out]; exact Nat.le_refl _
        have HGB := Lib.hid hgb
        clear hb hds u1 u2 u3 u4 hM hy hil hgb
        go_wp2_with fail
        refine ⟨⟨i, (i : Int) - 1, rfl, rfl, by omega, Lib.hid ⟨l1.set i 48, HU.out.2.1, by rw [List.length_set]; exact HU.out.2.2.1, HU.out.1, HU.out.2.2.2.setCell HGB.out _⟩⟩, by simp [intOf]⟩
      · have hq : ((y : Int) == 57) = false := by simp; omega
        have hq2 : ((y : Int) != 57) = true := by simp; omega
        have hb := u3.set i (UInt8.ofNat (y + 1)) ((y : Int) + 1) (by rw [UInt8.toNat_ofNat']; omega) hil
        have hds := isDig_set u1 i (UInt8.ofNat (y + 1)) (by rw [UInt8.toNat_ofNat']; omega)
        have hcv := conv_string hb n K (by rw [List.length_set]; exact u2)
        obtain ⟨M, hMM⟩ : ∃ M : ByteArray, M = ⟨(l1.set i (UInt8.ofNat (y + 1))).toArray⟩ := ⟨_, rfl⟩
        rw [← hMM] at hcv
        have hgb : w.heap.size ≤ g := by rw [HG.out]; exact Nat.le_refl _
        have HU := Lib.hid (And.intro hds (And.intro u2 (And.intro u4 (And.intro hMM hgb))))
        have hy9 : (y : Int) + 1 < 256 := by omega
        clear hb hds u1 u2 u3 u4 hM hy hil hMM hgb h57
        go_wp2_with fail
        go_returns
        exact ⟨l1.set i (UInt8.ofNat (y + 1)), ⟨by rw [HU.out.2.2.2.1]; rfl, HU.out.1, by rw [List.length_set, HU.out.2.1]; exact Nat.le_refl _, by rw [List.length_set, HU.out.2.1]; omega⟩, HU.out.2.2.1.setCell HU.out.2.2.2.2 _⟩
end Go.Proofs.YtnfddblpenninaaDoor
