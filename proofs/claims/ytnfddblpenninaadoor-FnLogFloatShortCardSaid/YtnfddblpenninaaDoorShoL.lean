/- A float's digits written out with an exponent: the walk. -/
import Derived.Test.YtnfddblpenninaaDoorFixR
namespace Go.Proofs.YtnfddblpenninaaDoor
open Go.RowKit

/-- Some bytes more. -/
theorem wpList_puts {w : World} {base : Nat} {ops : Array Oper} {rest : List Oper} {o : Oper} {a : Act} {Q : Exit → Act → World → Prop} (hgd : o.guard = none) (s x : Operand)
    (ho : o.op = .call { callee := .builtin .append, args := #[s, x], argTypes := #[45, 45] }) (hty : o.type = 45) (v : Value) (l m : List UInt8) (ad : Addr) (n c : Nat) (hs : a.eval s = v) (hx : a.eval x = .slice (some ad) n c) (hn : m.length = n)
    (hO : Out w base v l) (hb : base ≤ w.heap.size) (hl : l.length + m.length ≤ 100000) (hc : ∀ j (h : j < m.length), w.cell? (ad.add j) = some (byteV m[j]))
    (h : ∀ v' w', Out w' base v' (l ++ m) → Below base w w' → wpList Tryd.prog ops Q rest (a.put o.dst v') w') : wpList Tryd.prog ops Q (o :: rest) a w := by
  subst hn
  obtain ⟨v', w', h1, h2, h3⟩ := out_append w base v l m ad c hO hb hl hc
  exact wpList_app hgd s x 45 45 ho _ _ _ hs hx (by rw [hty]; exact h1) (h v' w' h2 h3)
theorem add_at (g o j : Nat) : (⟨g, o, none⟩ : Addr).add j = ⟨g, o + j, none⟩ := by
  simp [Addr.add]
  try omega
theorem new_bytes (w : World) (vs : Array Value) (m : List UInt8) (h : vs.toList = m.map byteV) : ∀ j (h : j < m.length), (w.alloc (.cells vs 5)).cell? ((⟨w.heap.size, 0, none⟩ : Addr).add j) = some (byteV m[j]) := fun j hj => by
  have e : (⟨w.heap.size, 0, none⟩ : Addr).add j = ⟨w.heap.size, j, none⟩ := by simp [Addr.add]; intro h; exact h.symm
  rw [e, (Whole.new w 5 vs).cell, ← Array.getElem?_toList, h, List.getElem?_map, List.getElem?_eq_getElem hj]
  rfl
/-- The exponent's digits. -/
def expD (a : Nat) : List UInt8 := if a < 10 then [48, UInt8.ofNat (48 + a)] else if a < 100 then [UInt8.ofNat (48 + a / 10), UInt8.ofNat (48 + a % 10)] else [UInt8.ofNat (48 + a / 100), UInt8.ofNat (48 + a / 10 % 10), UInt8.ofNat (48 + a % 10)]
def moreE (ds : List UInt8) : List UInt8 := if 1 < ds.length then 46 :: ds.drop 1 else []
def signE (x : Int) : UInt8 := if x < 0 then 45 else 43
/-- A float's text with an exponent, as few digits as there are. -/
def textE (neg : Bool) (ds : List UInt8) (dp : Int) : List UInt8 := sgnF neg ++ (ds.take 1 ++ moreE ds) ++ (101 :: signE (dp - 1) :: expD (dp - 1).natAbs)
set_option maxRecDepth 1000000 in
set_option maxHeartbeats 16000000 in
theorem efgE_walk (neg : Bool) (g len cap : Nat) (ds : List UInt8) (nd : Nat) (hnd : ds.length = nd) (dp : Int) (prec : Nat) (hprec : prec + 1 = nd) (w : World) (hg : g < w.heap.size) (hlen : nd ≤ len) (hcap : len ≤ cap) (hl2 : len ≤ 1000)
    (hcell : ∀ i (h : i < ds.length), w.cell? ⟨g, i, none⟩ = some (byteV ds[i])) (hd1 : -990 ≤ dp) (hd2 : dp ≤ 990) :
    Calls Tryd.prog 57 #[.slice none 0 0, .bool neg, .slice (some ⟨g, 0, none⟩) len cap, .int .i64 dp, .int .i64 (nd : Int), .int .i64 (prec : Int), .int .u8 101, .bool true] w (TextEnd w (textE neg ds dp)) := by
  have HC := Lib.hid (And.intro hg (And.intro hnd hcell))
  clear hg hnd hcell
  go_enter Tryd.func57, Tryd.ntmps57
  go_upto_if 78 with fail
  go_cut [0] (fun v wc => Out wc w.heap.size v (sgnF neg) ∧ Below w.heap.size w wc)
  case first =>
    have hO := Out.nil w w.heap.size
    have HO := Lib.hid hO
    clear hO
    cases neg
    · go_wp2_with fail
      go_meet
      exact ⟨HO.out, Below.refl _ _⟩
    · go_wp2_with (first | (at_builtin; refine wpList_put (base := w.heap.size) rfl _ _ rfl rfl _ [] 45 ⟨w.heap.size, 0, none⟩ rfl rfl (HO.out.alloc _) (by simp) (by simp) (new_byte w _ _ rfl) ?_; intro v2 w2 hO2 hB2; have H2 := Lib.hid (And.intro hO2 hB2); clear hO2 hB2))
      go_meet
      exact ⟨H2.out.1, ((Below.refl w.heap.size w).alloc (Nat.le_refl _) _).trans H2.out.2⟩
  case rest =>
    obtain ⟨wA, hwA⟩ : ∃ wA, wA = wc := ⟨_, rfl⟩
    rw [← hwA] at hcut ⊢
    clear hwA
    have HA := Lib.hid hcut
    clear hcut
    have hn0 : 0 < ds.length := by have := HC.out.2.1; omega
    have hc0 : wA.cell? ⟨g, 0, none⟩ = some (byteV ds[0]) := (World.cell?_of_block (a := ⟨g, 0, none⟩) (HA.out.2.block g HC.out.1)).trans (HC.out.2.2 0 hn0)
    obtain ⟨x, hx⟩ : ∃ x, x = ds[0] := ⟨_, rfl⟩
    rw [← hx] at hc0
    replace hc0 : wA.cell? ⟨g, 0, none⟩ = some (.int .u8 (x.toNat : Int)) := hc0
    have HX := Lib.hid hx
    have hnd0 : 0 < nd := by omega
    clear hx
    go_upto_region 26 with (first | (at_builtin; refine wpList_put (base := w.heap.size) rfl _ _ rfl rfl _ (sgnF neg) x ⟨wA.heap.size, 0, none⟩ rfl rfl (HA.out.1.alloc _) (by have := HA.out.2.size; simp; omega) (by unfold sgnF; split <;> simp) (new_byte wA _ _ rfl) ?_; intro v2 w2 hO2 hB2; have H2 := Lib.hid (And.intro hO2 (((HA.out.2).alloc HA.out.2.size _).trans hB2)); clear hO2 hB2))
    go_upto_if 92 with fail
    go_cut [0] (fun v wc => Out wc w.heap.size v (sgnF neg ++ (ds.take 1 ++ moreE ds)) ∧ Below w.heap.size w wc)
    case first => as_aux_lemma =>
      have ht1 : ds.take 1 = [x] := by rw [HX.out, List.take_one]; cases ds with | nil => simp at hn0 | cons a l => rfl
      by_cases h1 : nd = 1
      · subst h1
        obtain rfl : prec = 0 := by omega
        go_wp2_with fail
        go_meet
        rw [ht1, moreE, if_neg (by have := HC.out.2.1; omega), List.append_nil]
        exact H2.out
      · have HT := Lib.hid ht1
        clear ht1
        have hp0 : 0 < prec := by omega
        have hnd1 : 1 < nd := by omega
        obtain ⟨L, hL⟩ : ∃ L, L = sgnF neg ++ [x] := ⟨_, rfl⟩
        have hLl : L.length ≤ 2 := by rw [hL, List.length_append]; unfold sgnF; split <;> simp
        rw [← hL] at H2
        have HL := Lib.hid hL
        clear hL
        go_upto_region 29 with (first | (at_builtin; refine wpList_put (base := w.heap.size) rfl _ _ rfl rfl _ L 46 ⟨w2.heap.size, 0, none⟩ rfl rfl (H2.out.1.alloc _) (by have := H2.out.2.size; simp; omega) (by omega) (new_byte w2 _ _ rfl) ?_; intro v3 w3 hO3 hB3; have H3 := Lib.hid (And.intro hO3 (((H2.out.2).alloc H2.out.2.size _).trans hB3)); clear hO3 hB3))
        go_cut [21] (fun q wz => q = .int .i64 (nd : Int) ∧ wz = w3)
        case first => as_aux_lemma =>
          go_wp2_with fail
          go_meet
          exact ⟨congrArg (Value.int .i64) (by omega), rfl⟩
        case rest => as_aux_lemma =>
          obtain ⟨rfl, hwc⟩ := hcut
          obtain ⟨wD, hwD⟩ : ∃ wD, wD = wc := ⟨_, rfl⟩
          rw [← hwD] at hwc ⊢
          subst hwc
          clear hwD
          have hpq : (prec : Int) + 1 - (nd : Int) = 0 := by omega
          have hq1 : decide ((1 : Int) < (nd : Int)) = true := by simp; omega
          have hq2 : decide (1 < nd) = true := by simp; omega
          have hq3 : ((1 : Int) < (nd : Int)) := by omega
          go_wp2_with (first | (at_builtin; refine wpList_puts (base := w.heap.size) rfl _ _ rfl rfl _ (L ++ [46]) (ds.drop 1) _ _ _ rfl rfl (by have := HC.out.2.1; rw [List.length_drop]; omega) H3.out.1 (by have := H3.out.2.size; omega) (by have := HC.out.2.1; rw [List.length_append, List.length_drop]; simp; omega) (fun j hj => by
            rw [List.length_drop] at hj
            rw [List.getElem_drop, add_at]
            exact (World.cell?_of_block (a := ⟨g, 1 + j, none⟩) (H3.out.2.block g HC.out.1)).trans (HC.out.2.2 (1 + j) (by omega))) ?_; intro v4 w4 hO4 hB4; have H4 := Lib.hid (And.intro hO4 (H3.out.2.trans hB4)); clear hO4 hB4))
          refine wp_loop_rounds 1 ?_
          rw [rounds_succ]
          go_wp2_with fail
          go_meet
          have hO := H4.out.1
          rw [HL.out] at hO
          rw [HT.out, moreE, if_pos (by have := HC.out.2.1; omega)]
          simpa using And.intro hO H4.out.2
    case rest => as_aux_lemma =>
      obtain ⟨wE, hwE⟩ : ∃ wE, wE = wc := ⟨_, rfl⟩
      rw [← hwE] at hcut ⊢
      clear hwE
      obtain ⟨L, hL⟩ : ∃ L, L = sgnF neg ++ (ds.take 1 ++ moreE ds) := ⟨_, rfl⟩
      rw [← hL] at hcut
      have hLl : L.length ≤ 2000 := by
        rw [hL, List.length_append, List.length_append, List.length_take]
        have h1 : (sgnF neg).length ≤ 1 := by unfold sgnF; split <;> simp
        have h2 : (moreE ds).length ≤ nd + 1 := by
          have := HC.out.2.1
          unfold moreE
          split
          · rw [List.length_cons, List.length_drop]; omega
          · simp
        omega
      have HL := Lib.hid hL
      have HB := Lib.hid hcut
      clear hcut hL HA H2 HX
      obtain ⟨q, hq⟩ : ∃ q, q = dp - 1 := ⟨_, rfl⟩
      obtain rfl : dp = q + 1 := by omega
      clear hq
      have hq1 : q + 1 - 1 = q := by omega
      go_upto_if 129 with (first | (at_builtin; refine wpList_put (base := w.heap.size) rfl _ _ rfl rfl _ L 101 ⟨wE.heap.size, 0, none⟩ rfl rfl (HB.out.1.alloc _) (by have := HB.out.2.size; simp; omega) (by omega) (new_byte wE _ _ rfl) ?_; intro v2 w2 hO2 hB2; have H2 := Lib.hid (And.intro hO2 (((HB.out.2).alloc HB.out.2.size _).trans hB2)); clear hO2 hB2))
      clear hq1
      obtain ⟨a, ha⟩ : ∃ a, a = q.natAbs := ⟨_, rfl⟩
      have ha9 : a < 1000 := by omega
      have HQ := Lib.hid ha
      go_cut [19, 22] (fun vc vq wz => vc = .int .u8 ((signE q).toNat : Int) ∧ vq = .int .i64 (a : Int) ∧ wz = w2)
      case first => as_aux_lemma =>
        rcases Int.lt_or_le q 0 with h0 | h0
        · have hna : -q = (a : Int) := by omega
          have HH := Lib.hid h0
          clear ha
          go_wp2_with fail
          go_meet
          rw [signE, if_pos HH.out]
          exact ⟨rfl, rfl, rfl⟩
        · have hd0 : decide (q < 0) = false := by simp; omega
          have HH := Lib.hid h0
          obtain rfl : q = (a : Int) := by omega
          clear ha h0
          go_wp2_with fail
          go_meet
          rw [signE, if_neg (by have := HH.out; omega)]
          exact ⟨rfl, rfl, rfl⟩
      case rest => as_aux_lemma =>
        obtain ⟨rfl, rfl, hwc⟩ := hcut
        obtain ⟨wD, hwD⟩ : ∃ wD, wD = wc := ⟨_, rfl⟩
        rw [← hwD] at hwc ⊢
        subst hwc
        clear hwD ha
        obtain ⟨sg, hsg⟩ : ∃ sg, sg = signE q := ⟨_, rfl⟩
        rw [← hsg]
        have HS := Lib.hid hsg
        clear hsg
        go_upto_region 47 with (first | (at_builtin; refine wpList_put (base := w.heap.size) rfl _ _ rfl rfl _ (L ++ [101]) sg ⟨wD.heap.size, 0, none⟩ rfl rfl (H2.out.1.alloc _) (by have := H2.out.2.size; simp; omega) (by rw [List.length_append]; simp; omega) (new_byte wD _ _ rfl) ?_; intro v3 w3 hO3 hB3; have H3 := Lib.hid (And.intro hO3 (((H2.out.2).alloc H2.out.2.size _).trans hB3)); clear hO3 hB3))
        have hend : ∀ v4 w4, Out w4 w.heap.size v4 ((L ++ [101] ++ [sg]) ++ expD a) → Below w.heap.size w w4 → TextEnd w (textE neg ds (q + 1)) (.returned v4) w4 := fun v4 w4 h1 h2 => by
          refine ⟨v4, rfl, ?_, h2⟩
          have e1 : q + 1 - 1 = q := by omega
          rw [textE, e1, ← HL.out, ← HS.out, ← HQ.out]
          simpa using h1
        have HE := Lib.hid hend
        clear hend
        by_cases h10 : a < 10
        · as_aux_lemma =>
          have hx1 : expD a = [48, UInt8.ofNat (48 + a)] := by unfold expD; rw [if_pos h10]
          have hd1 := digit_nat a h10
          have HX1 := Lib.hid (And.intro hx1 hd1)
          clear hx1 hd1
          go_wp2_with (first | (at_builtin; refine wpList_puts (base := w.heap.size) rfl _ _ rfl rfl _ (L ++ [101] ++ [sg]) [48, UInt8.ofNat (48 + a)] _ _ _ rfl rfl rfl (H3.out.1.alloc _) (by have := H3.out.2.size; simp; omega) (by rw [List.length_append, List.length_append]; simp; omega) (new_bytes w3 _ _ (by simp [byteV]; omega)) ?_; intro v4 w4 hO4 hB4; have H4 := Lib.hid (And.intro hO4 (((H3.out.2).alloc H3.out.2.size _).trans hB4)); clear hO4 hB4))
          go_returns
          exact HE.out _ _ (by rw [HX1.out.1]; exact H4.out.1) H4.out.2
        · by_cases h100 : a < 100
          · as_aux_lemma =>
            have hx1 : expD a = [UInt8.ofNat (48 + a / 10), UInt8.ofNat (48 + a % 10)] := by unfold expD; rw [if_neg h10, if_pos h100]
            have hd1 := digit_nat (a / 10) (by omega)
            have hd2 := digit_nat (a % 10) (by omega)
            have HX1 := Lib.hid (And.intro hx1 (And.intro hd1 hd2))
            clear hx1 hd1 hd2
            go_wp2_with (first | (at_builtin; refine wpList_puts (base := w.heap.size) rfl _ _ rfl rfl _ (L ++ [101] ++ [sg]) [UInt8.ofNat (48 + a / 10), UInt8.ofNat (48 + a % 10)] _ _ _ rfl rfl rfl (H3.out.1.alloc _) (by have := H3.out.2.size; simp; omega) (by rw [List.length_append, List.length_append]; simp; omega) (new_bytes w3 _ _ (by simp [byteV]; omega)) ?_; intro v4 w4 hO4 hB4; have H4 := Lib.hid (And.intro hO4 (((H3.out.2).alloc H3.out.2.size _).trans hB4)); clear hO4 hB4))
            go_returns
            exact HE.out _ _ (by rw [HX1.out.1]; exact H4.out.1) H4.out.2
          · as_aux_lemma =>
            have hx1 : expD a = [UInt8.ofNat (48 + a / 100), UInt8.ofNat (48 + a / 10 % 10), UInt8.ofNat (48 + a % 10)] := by unfold expD; rw [if_neg h10, if_neg h100]
            have hd1 := digit_nat (a / 100) (by omega)
            have hd2 := digit_nat (a / 10 % 10) (by omega)
            have hd3 := digit_nat (a % 10) (by omega)
            have HX1 := Lib.hid (And.intro hx1 (And.intro hd1 (And.intro hd2 hd3)))
            clear hx1 hd1 hd2 hd3
            go_wp2_with (first | (at_builtin; refine wpList_puts (base := w.heap.size) rfl _ _ rfl rfl _ (L ++ [101] ++ [sg]) [UInt8.ofNat (48 + a / 100), UInt8.ofNat (48 + a / 10 % 10), UInt8.ofNat (48 + a % 10)] _ _ _ rfl rfl rfl (H3.out.1.alloc _) (by have := H3.out.2.size; simp; omega) (by rw [List.length_append, List.length_append]; simp; omega) (new_bytes w3 _ _ (by simp [byteV]; omega)) ?_; intro v4 w4 hO4 hB4; have H4 := Lib.hid (And.intro hO4 (((H3.out.2).alloc H3.out.2.size _).trans hB4)); clear hO4 hB4))
            go_returns
            exact HE.out _ _ (by rw [HX1.out.1]; exact H4.out.1) H4.out.2
end Go.Proofs.YtnfddblpenninaaDoor
