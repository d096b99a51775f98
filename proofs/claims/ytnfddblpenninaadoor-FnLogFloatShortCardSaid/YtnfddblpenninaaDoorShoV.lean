/- No number with a digit less is near: the reference's walk. -/
import Derived.Test.YtnfddblpenninaaDoorMgO
import Derived.Test.YtnfddblpenninaaDoorMgQ
namespace Go.Proofs.YtnfddblpenninaaDoor
open Go.RowKit

/-- A number is read. -/
def DecAny (w : World) (neg : Bool) (D : Nat) (E : Int) (e : Ending) (w' : World) : Prop := ∃ (q : Option Addr) (c k : Nat) (ys : List Nat), e = .returned (.tuple #[.bool neg, .slice q k c, .int .i64 E, .bool true]) ∧ (ys.length = k ∧ NatAt w' q ys ∧ k ≤ 500 ∧ wval ys = D) ∧ Below w.heap.size w w'
theorem dec_any (neg : Bool) (s : ByteArray) (D : Nat) (E : Int) (h : NumText neg s D E) (w : World) : Calls Tryd.prog 9 #[.string s] w (DecAny w neg D E) := by
  rcases h with ⟨l, h1, h2, h3, h4, h5, h6⟩ | ⟨l, sg, xs, h1, h5, h6⟩
  · obtain ⟨c0, l', hlc⟩ : ∃ c0 l', l = c0 :: l' := by
      cases l with
      | nil => simp [cntD] at h4
      | cons c r => exact ⟨c, r, rfl⟩
    refine (decimal_walk neg s l h1 h2 (by omega) h4 c0 l' hlc w).mono fun e w' h => ?_
    obtain ⟨q, c, k, ys, he, hy, hn, hv, hk, hb⟩ := h
    rw [List.take_of_length_le (Nat.le_refl _)] at hv
    exact ⟨q, c, k, ys, by rw [h6]; exact he, ⟨hy, hn.1, by omega, by rw [h5]; exact hv⟩, hb⟩
  · have h4 := h1.cnt
    obtain ⟨c0, l', hlc⟩ : ∃ c0 l', l = c0 :: l' := by
      cases l with
      | nil => simp [cntD] at h4
      | cons c r => exact ⟨c, r, rfl⟩
    refine (decimalX_walk neg s l sg xs h1.str h1.plain (by have := h1.len; omega) h4 c0 l' hlc h1.sgn h1.dig h1.pos h1.three w).mono fun e w' h => ?_
    obtain ⟨q, c, k, ys, he, hy, hn, hv, hk, hb⟩ := h
    rw [List.take_of_length_le (Nat.le_refl _)] at hv
    have := h1.len
    exact ⟨q, c, k, ys, by rw [h6]; exact he, ⟨hy, hn.1, by omega, by rw [h5]; exact hv⟩, hb⟩
theorem exp_signed (n : Int) (h1 : -1000 < n) (h2 : n < 1000) : (sgnT n = [] ∨ sgnT n = [43] ∨ sgnT n = [45]) ∧ IsDig (Lib.decDigits n.natAbs) ∧ 0 < (Lib.decDigits n.natAbs).length ∧ (Lib.decDigits n.natAbs).length ≤ 3 ∧ expV (sgnT n) (Lib.decDigits n.natAbs) = n := by
  obtain ⟨g1, g2⟩ := numL_dec n.natAbs
  refine ⟨?_, g2, ?_, dec_len _ 3 (by omega) (by decide), ?_⟩
  · unfold sgnT
    split
    · exact .inr (.inr rfl)
    · exact .inl rfl
  · rw [Lib.decDigits_length]
    exact Lib.nDigits_pos _
  · unfold expV sgnT
    rw [g1]
    split
    · rw [if_pos rfl]
      omega
    · rw [if_neg (by decide)]
      omega
/-- A candidate's text. -/
theorem cand_text (neg : Bool) (l : List UInt8) (n : Int) (s : ByteArray) (hs : s.data.toList = sgnF neg ++ l ++ [101] ++ (sgnT n ++ Lib.decDigits n.natAbs)) (hl : IsDig l) (h0 : 0 < l.length) (h5 : l.length ≤ 500) (h1 : -1000 < n) (h2 : n < 1000) :
    TextX neg s l (sgnT n) (Lib.decDigits n.natAbs) ∧ -(behindD l l.length : Int) + expV (sgnT n) (Lib.decDigits n.natAbs) = n := by
  obtain ⟨e1, e2, e3, e4, e5⟩ := exp_signed n h1 h2
  refine ⟨⟨?_, fun c hc => .inr (hl c hc), h5, ?_, e1, e2, e3, e4⟩, ?_⟩
  · rw [hs, sgn_signed, signed_app, signed_app]
    simp
  · cases l with
    | nil => simp at h0
    | cons c r => exact cnt_pos (hl c (List.mem_cons_self ..))
  · rw [behind_dig hl, e5]
    omega
theorem last_digit (ds : List UInt8) (hd : IsDig ds) (j : Nat) (h : j < ds.length) (hne : ds[j].toNat ≠ 48) : numL (ds.take (j + 1)) % 10 ≠ 0 := by
  rw [numL_take ds j h]
  have := hd _ (List.getElem_mem h)
  omega
/-- The two candidates in memory, and what was there. -/
def Two (w wr : World) (g : Nat) (lo hi : ByteArray) : Prop := Below w.heap.size w wr ∧ g < wr.heap.size ∧ wr.cell? ⟨g, 0, none⟩ = some (.string lo) ∧ wr.cell? ⟨g, 1, none⟩ = some (.string hi)
/-- What is asked of the test for nearness. -/
def NearC (neg : Bool) (b : Nat) (sh : Bool) (M : Nat) (K least : Int) (top : Nat) : Prop := ∀ (s : ByteArray) (l sg xs : List UInt8), TextX neg s l sg xs → ∀ E : Int, E = -(behindD l l.length : Int) + expV sg xs → -1000 ≤ E → E ≤ 1000 → ∀ W : World,
  Calls Tryd.prog 25 #[.string s, .float .f64 b, .bool sh] W fun e w' => e = .returned (.bool (nearB (numD l) E M K least top)) ∧ Below W.heap.size W w'
set_option maxRecDepth 1000000 in
set_option maxHeartbeats 16000000 in
theorem few_walk (neg : Bool) (s : ByteArray) (D : Nat) (E : Int) (hT : NumText neg s D E) (hD : ∃ n, 1 ≤ n ∧ n ≤ 450 ∧ D < 10 ^ n) (hE1 : -500 ≤ E) (hE2 : E ≤ 420) (b : Nat) (sh : Bool) (M : Nat) (K least : Int) (top : Nat) (hN : D ≠ 0 → NearC neg b sh M K least top)
    (hfew : D = 0 ∨ ∀ (D' : Nat) (E' : Int), SameVal D' E' D E → D' % 10 ≠ 0 → ∀ C, nearB C (E' + 1) M K least top = false) (w : World) :
    Calls Tryd.prog 8 #[.string s, .float .f64 b, .bool sh] w fun e w' => e = .returned (.bool true) ∧ Below w.heap.size w w' := by
  obtain ⟨n0, n1, n2, n3⟩ := hD
  have hlen := dec_len D n0 n3 n1
  obtain ⟨hnum, hdig⟩ := numL_dec D
  have hpos : 0 < (Lib.decDigits D).length := by
    rw [Lib.decDigits_length]
    exact Lib.nDigits_pos _
  have C9 := Lib.hid (dec_any neg s D E hT w)
  have c23 : ∀ (W : World) (q : Option Addr) (c k : Nat) (ys : List Nat), NatAt W q ys → ys.length = k → k ≤ 500 → wval ys = D → Calls Tryd.prog 23 #[.slice q k c] W fun e w' => e = .returned (.string ⟨(Lib.decDigits D).toArray⟩) ∧ Below W.heap.size W w' := fun W q c k ys h1 h2 h3 h4 => by
    have := decimal_digs q c ys k W h1 h2 (by omega) (by rw [h4]; omega)
    rw [h4] at this
    exact this
  have C23 := Lib.hid c23
  obtain ⟨ds, hds⟩ : ∃ ds, ds = Lib.decDigits D := ⟨_, rfl⟩
  rw [← hds] at C23 hlen hnum hdig hpos
  obtain ⟨n, hn⟩ : ∃ n, n = ds.length := ⟨_, rfl⟩
  rw [← hn] at hlen hpos
  obtain ⟨t0, ht0⟩ : ∃ t0 : ByteArray, t0 = ⟨ds.toArray⟩ := ⟨_, rfl⟩
  rw [← ht0] at C23
  have HD := Lib.hid (And.intro hnum (And.intro hdig (And.intro hn (And.intro ht0 (And.intro hfew hN)))))
  have hn450 : n ≤ 450 := by omega
  clear hnum hdig hn ht0 hfew hN c23 hds hT n1 n2 n3 hlen
  go_enter Tryd.func8, Tryd.ntmps8
  go_upto_region 5 with (first
    | (go_at_call 9; refine C9.out.mono ?_; rintro e1 w1 ⟨q, c, k, ys, rfl, h1, h2⟩; have H1 := Lib.hid (And.intro h1 h2); clear h1 h2)
    | (go_at_call 23; refine (C23.out _ q c k ys H1.out.1.2.1 H1.out.1.1 H1.out.1.2.2.1 H1.out.1.2.2.2).mono ?_; rintro e2 w2 ⟨rfl, h2⟩; have H2 := Lib.hid (below_next H1.out.2 h2); clear h2))
  go_loop [11, 9] (fun vt ve => ∃ (j : Nat) (t : ByteArray) (v : Int), vt = .string t ∧ t.size = j + 1 ∧ j < n ∧ ve = .int .i64 v ∧ v = E + ((n : Int) - (j + 1 : Nat)) ∧ Hid (t.data.toList = ds.take (j + 1) ∧ numL (ds.take (j + 1)) * 10 ^ (n - (j + 1)) = D)) (fun vt _ => szOf vt)
  case atStart =>
    refine ⟨n - 1, t0, E, rfl, ?_, by omega, rfl, by omega, Lib.hid ?_⟩
    · rw [HD.out.2.2.2.1]
      show ds.toArray.size = _
      have := HD.out.2.2.1
      simp
      omega
    · have h1 := HD.out.2.2.1
      rw [show n - 1 + 1 = n by omega, Nat.sub_self, Nat.pow_zero, Nat.mul_one, List.take_of_length_le (by omega)]
      exact ⟨by rw [HD.out.2.2.2.1], HD.out.1⟩
  case round =>
    obtain ⟨j, t, v, rfl, hsz, hj, rfl, hv, hM⟩ := hrel
    have hjd : j < ds.length := by have := HD.out.2.2.1; omega
    have hv1 : -1000 ≤ v := by omega
    have hv2 : v ≤ 900 := by omega
    rcases j with _ | i
    · clear hM
      go_wp2_with fail
      go_returns
      exact ⟨rfl, H2.out⟩
    · have hy := byte_at t (ds.take (i + 1 + 1)) hM.out.1 (i + 1) (by rw [List.length_take]; omega)
      rw [List.getElem_take] at hy
      have hd48 := HD.out.2.1 ds[i + 1] (List.getElem_mem _)
      obtain ⟨y, hyy⟩ : ∃ y, y = ds[i + 1].toNat := ⟨_, rfl⟩
      rw [← hyy] at hy hd48
      have hy2 : ∀ W, (Instr.index 9 (.string t) (.int .i64 ((i : Int) + 1))).run Tryd.prog W = .ok (.int .u8 (y : Int)) W := fun W => by
        rw [show (i : Int) + 1 = ((i + 1 : Nat) : Int) by omega]
        exact hy W
      have HV := Lib.hid hv
      have HY := Lib.hid hyy
      clear hv hyy
      by_cases h48 : y = 48
      · subst h48
        have hs2 : (t.extract 0 (i + 1)).size = i + 1 := by simp; omega
        have hl2 : (t.extract 0 (i + 1)).data.toList = ds.take (i + 1) := by
          rw [Lib.extract_data, hM.out.1]
          simp [List.take_take]
        have hnum : numL (ds.take (i + 1)) * 10 ^ (n - (i + 1)) = D := by
          have h1 := hM.out.2
          rw [List.take_succ_eq_append_getElem hjd, numL_append, numL_one, ← HY.out] at h1
          simp only [List.length_singleton, Nat.pow_one, Nat.sub_self, Nat.add_zero] at h1
          rw [show n - (i + 1) = n - (i + 1 + 1) + 1 by omega, Nat.pow_succ, Nat.mul_comm (10 ^ _) 10, ← Nat.mul_assoc]
          exact h1
        have HS := Lib.hid (And.intro hs2 (And.intro hl2 hnum))
        clear hs2 hl2 hnum hM
        go_wp2_with fail
        refine ⟨⟨i, t.extract 0 (i + 1), v + 1, rfl, HS.out.1, by omega, rfl, by have := HV.out; omega, Lib.hid HS.out.2⟩, ?_⟩
        show (t.extract 0 (i + 1)).size < t.size
        rw [HS.out.1, hsz]
        omega
      · have hq : ((y : Int) == 48) = false := by simp; omega
        have H48 := Lib.hid h48
        clear h48
        obtain ⟨sg, hsg⟩ : ∃ sg : ByteArray, sg = ⟨(sgnF neg).toArray⟩ := ⟨_, rfl⟩
        have hsgs : sg.size ≤ 1 := by rw [hsg]; cases neg <;> decide
        have HSG := Lib.hid hsg
        clear hsg
        go_upto_if 48 with fail
        go_cut [12] (fun q wz => q = .string sg ∧ wz = w2)
        case first => as_aux_lemma =>
          cases neg
          · go_wp2_with fail
            go_meet
            exact ⟨by rw [HSG.out]; rfl, rfl⟩
          · go_wp2_with fail
            go_meet
            exact ⟨by rw [HSG.out]; rfl, rfl⟩
        case rest => as_aux_lemma =>
          obtain ⟨rfl, hwc⟩ := hcut
          obtain ⟨wB, hwB⟩ : ∃ wB, wB = wc := ⟨_, rfl⟩
          rw [← hwB] at hwc ⊢
          subst hwc
          clear hwB hy hy2
          have hl2 : (t.extract 0 (i + 1)).data.toList = ds.take (i + 1) := by
            rw [Lib.extract_data, hM.out.1]
            simp [List.take_take]
          have hll : (ds.take (i + 1)).length = i + 1 := by rw [List.length_take]; omega
          have C24 := Lib.hid (up_any (t.extract 0 (i + 1)) (ds.take (i + 1)) hl2 (isDig_take HD.out.2.1 _) (i + 1) hll (by omega) wB)
          have HLO := Lib.hid (And.intro hl2 hll)
          clear hl2 hll
          go_wp2_with (go_at_call 24; refine C24.out.mono ?_; rintro e3 w3 ⟨m, ⟨rfl, h1, h2, h3⟩, h4⟩; have H3 := Lib.hid (And.intro h1 (And.intro h2 (And.intro h3 h4))); clear h1 h2 h3 h4)
          obtain ⟨lo, hlo⟩ : ∃ lo : ByteArray, lo = t.extract 0 (i + 1) := ⟨_, rfl⟩
          obtain ⟨hi, hhi⟩ : ∃ hi : ByteArray, hi = ⟨m.toArray⟩ := ⟨_, rfl⟩
          rw [← hlo, ← hhi]
          have hW := Whole.new w3 9 #[.string lo, .string hi]
          have hB3 : Below w.heap.size w (w3.alloc (.cells #[.string lo, .string hi] 9)) := (below_next H2.out H3.out.2.2.2).alloc (below_next H2.out H3.out.2.2.2).size _
          have hTwo : Two w (w3.alloc (.cells #[.string lo, .string hi] 9)) w3.heap.size lo hi := ⟨hB3, by simp, by rw [hW.cell]; rfl, by rw [hW.cell]; rfl⟩
          have HTwo := Lib.hid hTwo
          have HLH := Lib.hid (And.intro hlo hhi)
          clear hW hB3 hTwo hlo hhi C24
          have C26 := Lib.hid (fun W => signed_any (v + 1) (by omega) (by omega) W)
          obtain ⟨S, hS⟩ : ∃ S : ByteArray, S = ⟨(sgnT (v + 1) ++ Lib.decDigits (v + 1).natAbs).toArray⟩ := ⟨_, rfl⟩
          rw [← hS] at C26
          have hSs : S.size ≤ 6 := by
            rw [hS]
            show (sgnT (v + 1) ++ Lib.decDigits (v + 1).natAbs).toArray.size ≤ 6
            rw [List.size_toArray, List.length_append]
            have h1 := dec_len (v + 1).natAbs 5 (by omega) (by decide)
            have h2 : (sgnT (v + 1)).length ≤ 1 := by unfold sgnT; split <;> simp
            omega
          have HS := Lib.hid hS
          clear hS
          obtain ⟨g, hg⟩ : ∃ g, g = w3.heap.size := ⟨_, rfl⟩
          rw [← hg] at HTwo ⊢
          clear hg
          have hD0 : D ≠ 0 := fun h => by
            have h1 := hM.out.2
            rw [h] at h1
            have h3 := last_digit ds HD.out.2.1 (i + 1) hjd (by rw [← HY.out]; exact H48.out)
            rcases Nat.mul_eq_zero.1 h1 with h4 | h4
            · rw [h4] at h3
              exact h3 rfl
            · have := pow_pos10 (n - (i + 1 + 1))
              omega
          have hNr := HD.out.2.2.2.2.2 hD0
          have HNR := Lib.hid hNr
          have hnot : ∀ C, nearB C (v + 1) M K least top = false := by
            rcases HD.out.2.2.2.2.1 with h | h
            · exact absurd h hD0
            · refine h (numL (ds.take (i + 1 + 1))) v ⟨n - (i + 1 + 1), 0, by have := HV.out; omega, ?_⟩ (last_digit ds HD.out.2.1 (i + 1) hjd (by rw [← HY.out]; exact H48.out))
              rw [Nat.pow_zero, Nat.mul_one]
              exact hM.out.2
          have HNOT := Lib.hid hnot
          clear hnot hNr hD0
          go_loopw [59] (fun vk wr => ∃ k : Nat, vk = .int .i64 k ∧ k ≤ 2 ∧ Hid (Two w wr g lo hi)) (fun vk _ => 2 - (intOf vk).toNat)
          case atStart => exact ⟨0, rfl, Nat.zero_le _, HTwo⟩
          case round =>
            obtain ⟨k', rfl, hk2, hW⟩ := hrel
            by_cases hlt : k' < 2
            · obtain ⟨x, l, hc, hx, hlx, hl0, hl5⟩ : ∃ (x : ByteArray) (l : List UInt8), wr.cell? ⟨g, k', none⟩ = some (.string x) ∧ x.data.toList = l ∧ IsDig l ∧ 0 < l.length ∧ l.length ≤ 500 := by
                rcases (show k' = 0 ∨ k' = 1 by omega) with rfl | rfl
                · exact ⟨lo, ds.take (i + 1), hW.out.2.2.1, by rw [HLH.out.1]; exact HLO.out.1, isDig_take HD.out.2.1 _, by rw [HLO.out.2]; omega, by rw [HLO.out.2]; omega⟩
                · exact ⟨hi, m, hW.out.2.2.2, by rw [HLH.out.2], H3.out.1, by have := H3.out.2.1; omega, by have := H3.out.2.2.1; omega⟩
              have hstr : (sg ++ x ++ ⟨#[101]⟩ ++ S).data.toList = sgnF neg ++ l ++ [101] ++ (sgnT (v + 1) ++ Lib.decDigits (v + 1).natAbs) := by
                rw [HSG.out, HS.out, ← hx]
                simp
              obtain ⟨hTX, hEX⟩ := cand_text neg l (v + 1) _ hstr hlx hl0 hl5 (by omega) (by omega)
              have c25 := fun W => HNR.out _ l _ _ hTX (v + 1) hEX.symm (by omega) (by omega) W
              rw [HNOT.out] at c25
              have C25 := Lib.hid c25
              have hxs : x.size ≤ 500 := by rw [size_of hx]; exact hl5
              clear hstr hTX hEX c25 hx hlx hl0 hl5
              go_wp2_with (first
                | (go_at_call 26; refine (C26.out _).mono ?_; rintro e4 w4 ⟨rfl, h4⟩; have H4 := Lib.hid h4; clear h4)
                | (go_at_call 25; refine (C25.out _).mono ?_; rintro e5 w5 ⟨rfl, h5⟩; have H5 := Lib.hid h5; clear h5))
              have hb := below_next (below_next hW.out.1 H4.out) H5.out
              have hb2 : Below wr.heap.size wr w5 := below_next H4.out H5.out
              refine ⟨⟨k' + 1, by go_num, by omega, Lib.hid ⟨hb, Nat.lt_of_lt_of_le hW.out.2.1 hb2.size, (hb2.cell (p := ⟨g, 0, none⟩) hW.out.2.1).trans hW.out.2.2.1, (hb2.cell (p := ⟨g, 1, none⟩) hW.out.2.1).trans hW.out.2.2.2⟩⟩, by simp [intOf]; omega⟩
            · obtain rfl : k' = 2 := by omega
              go_wp2_with fail
              go_returns
              exact ⟨rfl, hW.out.1⟩
end Go.Proofs.YtnfddblpenninaaDoor
