/- A JSON number with an exponent is read. -/
import Derived.Test.YtnfddblpenninaaDoorFixR
namespace Go.Proofs.YtnfddblpenninaaDoor
open Go.RowKit

/-- The exponent that a sign and digits say. -/
def expV (sg xs : List UInt8) : Int := if sg = [45] then -(numL xs : Int) else (numL xs : Int)
/-- What is read. -/
def DecXEnd (w : World) (neg : Bool) (l : List UInt8) (x : Int) (e : Ending) (w' : World) : Prop := ∃ (q : Option Addr) (c k : Nat) (ys : List Nat), e = .returned (.tuple #[.bool neg, .slice q k c, .int .i64 (-(behindD l l.length : Int) + x), .bool true]) ∧ ReadD w w' q k c ys l l.length
theorem numL_take (l : List UInt8) (i : Nat) (h : i < l.length) : numL (l.take (i + 1)) = numL (l.take i) * 10 + (l[i].toNat - 48) := by
  rw [List.take_succ_eq_append_getElem h, numL_append, numL_one]
  simp
theorem numL_lt : ∀ (l : List UInt8), IsDig l → numL l < 10 ^ l.length := by
  intro l
  induction l with
  | nil => intro _; simp [numL]
  | cons c r ih =>
    intro h
    have h1 := ih fun x hx => h x (List.mem_cons_of_mem _ hx)
    have h2 := h c (List.mem_cons_self ..)
    have h3 : numL (c :: r) = (c.toNat - 48) * 10 ^ r.length + numL r := by
      have := numL_append [c] r
      rw [numL_one] at this
      exact this
    rw [h3, List.length_cons, Nat.pow_succ]
    have h4 : (c.toNat - 48) * 10 ^ r.length ≤ 9 * 10 ^ r.length := Nat.mul_le_mul_right _ (by omega)
    omega

set_option maxRecDepth 100000 in
set_option maxHeartbeats 16000000 in
theorem decimalX_walk (neg : Bool) (s : ByteArray) (l sg xs : List UInt8) (hs : s.data.toList = signed neg (l ++ 101 :: (sg ++ xs))) (hl : Plain l) (hn : l.length ≤ 1000) (hc0 : 0 < cntD l) (c0 : UInt8) (l' : List UInt8) (hlc : l = c0 :: l')
    (hsg : sg = [] ∨ sg = [43] ∨ sg = [45]) (hxs : IsDig xs) (hx0 : 0 < xs.length) (hx3 : xs.length ≤ 3) (w : World) :
    Calls Tryd.prog 9 #[.string s] w (DecXEnd w neg l (expV sg xs)) := by
  have hne : s.toList.isEmpty = false := by
    rw [Lib.toList_data, hs, hlc]
    cases neg <;> rfl
  have hc48 := hl c0 (by rw [hlc]; simp)
  obtain ⟨L, hLL⟩ : ∃ L, L = l ++ 101 :: (sg ++ xs) := ⟨_, rfl⟩
  obtain ⟨L', hLc⟩ : ∃ L', L = c0 :: L' := ⟨l' ++ 101 :: (sg ++ xs), by rw [hLL, hlc]; rfl⟩
  rw [← hLL] at hs
  have HS := Lib.hid hs
  have HL := Lib.hid (And.intro hl hc0)
  have HLL := Lib.hid hLL
  have HX := Lib.hid (And.intro hxs hx0)
  clear hl hc0 hlc hLL hxs
  go_enter Tryd.func9, Tryd.ntmps9
  go_upto_region 1 with fail
  go_cut [18] (fun q wc => q = .bool neg ∧ w = wc)
  case first =>
    cases neg
    · have hb : ∀ W, (Instr.index 9 (.string s) (.int .i64 0)).run Tryd.prog W = .ok (.int .u8 (c0.toNat : Int)) W := fun W => by
        have := byte_at s (signed false L) HS.out 0 (by rw [hLc]; simp [signed]) W
        simpa [signed, hLc] using this
      have hq : ((c0.toNat : Int) == 45) = false := by simp; omega
      clear hs hLc
      go_wp2_with fail
      go_meet
      exact ⟨congrArg Value.bool (by simp), rfl⟩
    · have hb : ∀ W, (Instr.index 9 (.string s) (.int .i64 0)).run Tryd.prog W = .ok (.int .u8 45) W := fun W => by
        have := byte_at s (signed true L) HS.out 0 (by simp [signed]) W
        simpa [signed] using this
      clear hs hLc
      go_wp2_with fail
      go_meet
      exact ⟨rfl, rfl⟩
  case rest =>
    obtain ⟨rfl, rfl⟩ := hcut
    clear hs hLc hne hc48
    go_upto_if 18 with fail
    go_cut [0, 2] (fun t b wc => t = .string ⟨L.toArray⟩ ∧ b = .bool neg ∧ Below w.heap.size w wc)
    case first =>
      cases neg
      · go_wp2_with fail
        go_meet
        exact ⟨congrArg Value.string (signed_no HS.out), rfl, Below.refl _ _⟩
      · have h1 : 1 ≤ s.size := by rw [size_of HS.out]; simp [signed]
        go_wp2_with fail
        go_quiet (fail)
        go_wp2_with fail
        go_meet
        exact ⟨congrArg Value.string (signed_yes HS.out), rfl, below_drewN (Below.refl _ _) _⟩
    case rest =>
      obtain ⟨rfl, rfl, hb0⟩ := hcut
      have HB := Lib.hid hb0
      clear hb0
      obtain ⟨t, ht⟩ : ∃ t : ByteArray, t = ⟨L.toArray⟩ := ⟨_, rfl⟩
      rw [← ht]
      have hts : t.data.toList = L := by rw [ht]
      obtain ⟨n, hnl⟩ : ∃ n, n = l.length := ⟨_, rfl⟩
      obtain ⟨r, hr⟩ : ∃ r, r = xs.length := ⟨_, rfl⟩
      obtain ⟨g, hg⟩ : ∃ g, g = sg.length := ⟨_, rfl⟩
      have hg1 : g ≤ 1 := by rcases hsg with h | h | h <;> simp [h] at hg <;> omega
      have hz : t.size = n + 1 + g + r := by rw [size_of hts, HLL.out, hnl, hr, hg]; simp; omega
      have hzL : L.length = n + 1 + g + r := by rw [← hz, size_of hts]
      rw [← hr] at hx3 hx0
      rw [← hnl] at hn
      have HT := Lib.hid (And.intro hts (And.intro hnl (And.intro hzL (And.intro hr hg))))
      clear ht hts hnl hzL hr hg
      go_wp2_with fail
      go_loopw [3, 6, 7] (fun vd vc vi wr => ∃ (i m k c : Nat) (q : Option Addr) (ys : List Nat), vi = .int .i64 i ∧ i ≤ n ∧ vc = .int .i64 m ∧ m ≤ i ∧ vd = .slice q k c ∧ Hid (m = cntD (l.take i) ∧ ReadD w wr q k c ys l i)) (fun _ _ vi _ => n - (intOf vi).toNat)
      case atStart =>
        exact ⟨0, 0, 0, 0, none, [], rfl, Nat.zero_le _, rfl, Nat.le_refl _, rfl, Lib.hid ⟨rfl, rfl, ⟨⟨by simp, fun i hi => by simp at hi⟩, Nat.le_refl _⟩, rfl, Nat.le_refl _, HB.out⟩⟩
      case round =>
        obtain ⟨i, m, k, c, q, ys, rfl, hi, rfl, hm, rfl, hM⟩ := hrel
        have hat : ∀ (h : i < n), ∃ h1 : i < L.length, ∃ h2 : i < l.length, L[i] = l[i] := fun h => by
          have h2 : i < l.length := by rw [← HT.out.2.1]; exact h
          refine ⟨by rw [HT.out.2.2.1]; omega, h2, ?_⟩
          simp only [HLL.out]
          exact List.getElem_append_left h2
        have HAT := Lib.hid hat
        clear hat
        have he : ∀ W, i = n → (Instr.index 9 (.string t) (.int .i64 (i : Int))).run Tryd.prog W = .ok (.int .u8 101) W := fun W h => by
          have h1 : i < L.length := by rw [HT.out.2.2.1]; omega
          have h2 := byte_at t L HT.out.1 i h1 W
          have h3 : L[i] = 101 := by
            have h4 := HT.out.2.1
            simp only [HLL.out]
            rw [List.getElem_append_right (by omega)]
            simp [h, h4]
          rw [h3] at h2
          exact h2
        have HE := Lib.hid he
        clear he
        go_upto_region 4 with fail
        go_cut [42] (fun b wc => b = .bool (decide (i < n)) ∧ wr = wc)
        case first =>
          by_cases hin : i < n
          · obtain ⟨hiL, hil, hLi⟩ := HAT.out hin
            have hy := byte_at t L HT.out.1 i hiL
            rw [hLi] at hy
            obtain ⟨x, hx⟩ : ∃ x, x = l[i] := ⟨_, rfl⟩
            have hpl := HL.out.1 l[i] (List.getElem_mem _)
            rw [← hx] at hy hpl
            obtain ⟨y, hyy⟩ : ∃ y, y = x.toNat := ⟨_, rfl⟩
            rw [← hyy] at hy hpl
            have hi1 : i < n + 1 + g + r := by omega
            clear hx hyy hLi
            rcases hpl with rfl | ⟨hp1, hp2⟩
            · go_wp2_with fail
              go_meet
              exact ⟨congrArg Value.bool (decide_eq_true hin).symm, rfl⟩
            · go_wp2_with fail
              go_meet
              exact ⟨congrArg Value.bool (decide_eq_true hin).symm, rfl⟩
          · obtain rfl : i = n := by omega
            have hy := fun W => HE.out W rfl
            have hi1 : i < i + 1 + g + r := by omega
            go_wp2_with fail
            go_meet
            exact ⟨congrArg Value.bool (by simp), rfl⟩
        case rest =>
          obtain ⟨rfl, rfl⟩ := hcut
          by_cases hin : i < n
          · obtain ⟨hiL, hil, hLi⟩ := HAT.out hin
            have hy := byte_at t L HT.out.1 i hiL
            rw [hLi] at hy
            obtain ⟨x, hx⟩ : ∃ x, x = l[i] := ⟨_, rfl⟩
            have hpl := HL.out.1 l[i] (List.getElem_mem _)
            have hnt := numD_take l i hil
            have hct := cntD_take l i hil
            rw [← hx] at hy hpl hnt hct
            obtain ⟨y, hyy⟩ : ∃ y, y = x.toNat := ⟨_, rfl⟩
            rw [stepD, ← hyy] at hnt
            rw [stepC, ← hyy] at hct
            rw [← hyy] at hy hpl
            have hi1 : i < n + 1 + g + r := by omega
            clear hx hyy hLi
            have HN := Lib.hid (And.intro hnt hct)
            clear hnt hct
            have hki : k ≤ i := hM.out.2.2.2.2.1
            rcases hpl with rfl | ⟨hp1, hp2⟩
            · go_wp2_with fail
              have hR := hM.out.2
              exact ⟨⟨i + 1, m, k, c, q, ys, by go_num, by omega, rfl, by omega, rfl, Lib.hid ⟨by rw [HN.out.2, if_pos rfl]; exact hM.out.1, hR.1, hR.2.1, by rw [HN.out.1, if_pos rfl]; exact hR.2.2.1, by omega, hR.2.2.2.2⟩⟩, by simp [intOf]; omega⟩
            · have hy46 : ¬ (y = 46) := by omega
              have hcast : ((y - 48 : Nat) : Int) = (y : Int) - 48 := by omega
              have c14 := times_walk q c ys 10 (y - 48) wr hM.out.2.2.1.1 k hM.out.2.1 (by omega) (by omega) (by omega)
              rw [hcast] at c14
              have C14 := Lib.hid c14
              have H46 := Lib.hid hy46
              have hq46 : ((y : Int) == 46) = false := by simp; omega
              clear c14 hcast hy46
              go_wp2_with (first | (go_at_call 14; refine C14.out.mono ?_; rintro e w2 ⟨q2, c2, zs, rfl, h1, h2, h3, h4⟩; have H2 := Lib.hid (And.intro h1 (And.intro h2 (And.intro h3 h4))); clear h1 h2 h3 h4))
              have hR := hM.out.2
              have h2 := H2.out
              exact ⟨⟨i + 1, m + 1, zs.length, c2, q2, zs, by go_num, by omega, by go_num, by omega, rfl, Lib.hid ⟨by rw [HN.out.2, if_neg H46.out, ← hM.out.1], rfl, h2.1, by rw [HN.out.1, if_neg H46.out, h2.2.1, hR.2.2.1], by omega, below_next hR.2.2.2.2 h2.2.2.2⟩⟩, by simp [intOf]; omega⟩
          · obtain rfl : i = n := by omega
            have hcn : cntD l = m := by
              have := hM.out.1
              rw [List.take_of_length_le (by rw [← HT.out.2.1]; exact Nat.le_refl _)] at this
              exact this.symm
            have hm0 : 0 < m := by have := HL.out.2; omega
            have HCN := Lib.hid hcn
            clear hcn
            go_wp2_with fail
            obtain ⟨wo, hwo⟩ : ∃ wo, wo = wr := ⟨_, rfl⟩
            subst hwo
            as_aux_lemma =>
            go_loopw [4, 8] (fun ve vj wz => ∃ (j : Nat) (v : Int), vj = .int .i64 j ∧ j ≤ i ∧ ve = .int .i64 v ∧ -1000 ≤ v ∧ v ≤ 0 ∧ wz = wo ∧ Hid (v = -(behindD l j : Int))) (fun _ vj _ => i - (intOf vj).toNat)
            case atStart => exact ⟨0, 0, rfl, Nat.zero_le _, rfl, by omega, by omega, rfl, Lib.hid (by simp [behindD])⟩
            case round =>
              obtain ⟨j, v, rfl, hj, rfl, hv1, hv2, rfl, hV⟩ := hrel
              rcases Nat.eq_or_lt_of_le hj with rfl | hji
              · have hee := fun W => HE.out W trivial
                have hd1 : decide ((m : Int) ≤ 1200) = true := by simp; omega
                have hR := hM.out.2
                have hjl : j = l.length := HT.out.2.1
                have hv := hV.out
                rw [hjl] at hv
                rw [hjl] at hR
                have HR := Lib.hid (And.intro hR hv)
                clear hR hjl hv
                obtain ⟨wo, hwo⟩ : ∃ wo, wo = wr := ⟨_, rfl⟩
                subst hwo
                clear hj
                have hbx : ∀ p (h : p < r), ∃ h2 : p < xs.length, ∀ W, (Instr.index 9 (.string t) (.int .i64 ((j + 1 + g + p : Nat) : Int))).run Tryd.prog W = .ok (.int .u8 ((xs[p]).toNat : Int)) W := fun p h => by
                  have h2 : p < xs.length := by rw [← HT.out.2.2.2.1]; exact h
                  refine ⟨h2, fun W => ?_⟩
                  have h1 : j + 1 + g + p < L.length := by rw [HT.out.2.2.1]; omega
                  have h3 := byte_at t L HT.out.1 _ h1 W
                  have h4 : L[j + 1 + g + p] = xs[p] := by
                    have h5 := HT.out.2.1
                    have h6 := HT.out.2.2.2.2
                    simp only [HLL.out]
                    rw [List.getElem_append_right (by omega)]
                    simp only [show j + 1 + g + p - l.length = g + p + 1 by omega, List.getElem_cons_succ]
                    rw [List.getElem_append_right (by omega)]
                    simp only [show g + p - sg.length = p by omega]
                  rw [h4] at h3
                  exact h3
                have HBX := Lib.hid hbx
                clear hbx
                have hsgn : ∀ (y : UInt8), sg = [y] → ∀ W, (Instr.index 9 (.string t) (.int .i64 ((j : Int) + 1))).run Tryd.prog W = .ok (.int .u8 (y.toNat : Int)) W := fun y hy W => by
                  have h6 := HT.out.2.2.2.2
                  rw [hy] at h6
                  have h1 : j + 1 < L.length := by rw [HT.out.2.2.1]; simp at h6; omega
                  have h3 := byte_at t L HT.out.1 _ h1 W
                  have h4 : L[j + 1] = y := by
                    have h5 := HT.out.2.1
                    simp only [HLL.out]
                    rw [List.getElem_append_right (by omega)]
                    simp only [show j + 1 - l.length = 0 + 1 by omega, List.getElem_cons_succ, hy]
                    rfl
                  rw [h4] at h3
                  exact h3
                have HSG := Lib.hid hsgn
                clear hsgn
                rcases hsg with hsg | hsg | hsg
                · obtain rfl : g = 0 := by have := HT.out.2.2.2.2; rw [hsg] at this; simpa using this
                  have HGS := Lib.hid hsg
                  clear hsg
                  obtain ⟨h20, h2b⟩ := HBX.out 0 hx0
                  have hx48 := HX.out.1 xs[0] (List.getElem_mem _)
                  obtain ⟨y, hy⟩ : ∃ y, y = xs[0].toNat := ⟨_, rfl⟩
                  rw [← hy] at h2b hx48
                  clear hy
                  replace h2b : ∀ W, (Instr.index 9 (.string t) (.int .i64 ((j : Int) + 1))).run Tryd.prog W = .ok (.int .u8 (y : Int)) W := fun W => by
                    have := h2b W
                    simpa using this
                  have hlt1 : j < j + 1 + 0 + r := by omega
                  have hlt2 : j + 1 < j + 1 + 0 + r := by omega
                  have hy1 : ((y : Int) == 45) = false := by simp; omega
                  have hy2 : ((y : Int) == 43) = false := by simp; omega
                  go_wp2_with fail
                  clear h2b hy1 hy2 hlt1 hlt2 hee h20
                  as_aux_lemma =>
                  go_loopw [7, 10] (fun vi vn wz => ∃ (p a : Nat), vi = .int .i64 ((j + 1 + p : Nat) : Int) ∧ p ≤ r ∧ vn = .int .i64 (a : Int) ∧ a < 1000 ∧ wz = wo ∧ Hid (a = numL (xs.take p))) (fun vi _ _ => r - ((intOf vi).toNat - (j + 1)))
                  case atStart => exact ⟨0, 0, congrArg (Value.int .i64) (by omega), Nat.zero_le _, rfl, by omega, rfl, Lib.hid (by simp [numL])⟩
                  case round =>
                    obtain ⟨p, a, rfl, hp, rfl, ha, rfl, hA⟩ := hrel
                    rcases Nat.eq_or_lt_of_le hp with rfl | hpr
                    · have hq1 : ((j + 1 + p : Nat) : Int) = (j + 1 : Nat) + (p : Int) := by omega
                      have hlt : decide (j + 1 + p < j + 1 + 0 + p) = false := by simp
                      have hne2 : (((j + 1 + p : Nat) : Int) == ((j : Int) + 1)) = false := by simp; omega
                      have hax : (a : Int) = numL xs := by
                        have h := hA.out
                        rw [List.take_of_length_le (by rw [← HT.out.2.2.2.1]; exact Nat.le_refl _)] at h
                        omega
                      have HAX := Lib.hid hax
                      have hs1 : decide (-2000 ≤ v + (a : Int)) = true := by simp; omega
                      have hs2 : decide (v + (a : Int) ≤ 2000) = true := by simp; omega
                      clear hax hp hq1
                      go_wp2_with fail
                      go_returns
                      refine ⟨q, c, k, ys, ?_, HR.out.1⟩
                      have hv := HR.out.2
                      have hex : expV sg xs = (a : Int) := by
                        rw [HAX.out, expV, HGS.out]
                        simp
                      rw [hex, ← hv]
                    · obtain ⟨h20, h2b⟩ := HBX.out p hpr
                      have hx48 := HX.out.1 xs[p] (List.getElem_mem _)
                      have hnt := numL_take xs p h20
                      have hnl := numL_lt (xs.take (p + 1)) (isDig_take HX.out.1 _)
                      have hl3 : 10 ^ (xs.take (p + 1)).length ≤ 1000 := Nat.le_trans (Nat.pow_le_pow_right (by decide) (by rw [List.length_take]; have := HT.out.2.2.2.1; omega : (xs.take (p + 1)).length ≤ 3)) (by decide)
                      obtain ⟨y, hy⟩ : ∃ y, y = xs[p].toNat := ⟨_, rfl⟩
                      rw [← hy] at h2b hx48 hnt
                      clear hy
                      have hnew : 10 * a + (y - 48) = numL (xs.take (p + 1)) := by rw [hnt, ← hA.out]; omega
                      have hlt9 : 10 * a + (y - 48) < 1000 := by omega
                      have HNW := Lib.hid hnew
                      have hlt : j + 1 + p < j + 1 + 0 + r := by omega
                      replace h2b : ∀ W, (Instr.index 9 (.string t) (.int .i64 ((j + 1 + p : Nat) : Int))).run Tryd.prog W = .ok (.int .u8 (y : Int)) W := h2b
                      have h2c : ∀ W, (Instr.index 9 (.string t) (.int .i64 (((j : Int) + 1) + (p : Int)))).run Tryd.prog W = .ok (.int .u8 (y : Int)) W := fun W => by
                        rw [show (((j : Int) + 1) + (p : Int)) = ((j + 1 + p : Nat) : Int) by omega]
                        exact h2b W
                      clear hnew hnl hl3 hnt h20 hp
                      go_wp2_with fail
                      refine ⟨⟨p + 1, 10 * a + (y - 48), by congr 1, by omega, ?_, hlt9, trivial, Lib.hid HNW.out⟩, by simp [intOf]; omega⟩
                      congr 1
                      omega
                · obtain rfl : g = 1 := by have := HT.out.2.2.2.2; rw [hsg] at this; simpa using this
                  have h2b := HSG.out 43 hsg
                  have HGS := Lib.hid hsg
                  clear hsg
                  replace h2b : ∀ W, (Instr.index 9 (.string t) (.int .i64 ((j : Int) + 1))).run Tryd.prog W = .ok (.int .u8 43) W := h2b
                  have hlt1 : j < j + 1 + 1 + r := by omega
                  have hlt2 : j + 1 < j + 1 + 1 + r := by omega
                  go_wp2_with fail
                  clear h2b hlt1 hlt2 hee
                  as_aux_lemma =>
                  go_loopw [7, 10] (fun vi vn wz => ∃ (p a : Nat), vi = .int .i64 ((j + 1 + 1 + p : Nat) : Int) ∧ p ≤ r ∧ vn = .int .i64 (a : Int) ∧ a < 1000 ∧ wz = wo ∧ Hid (a = numL (xs.take p))) (fun vi _ _ => r - ((intOf vi).toNat - (j + 1 + 1)))
                  case atStart => exact ⟨0, 0, congrArg (Value.int .i64) (by omega), Nat.zero_le _, rfl, by omega, rfl, Lib.hid (by simp [numL])⟩
                  case round =>
                    obtain ⟨p, a, rfl, hp, rfl, ha, rfl, hA⟩ := hrel
                    rcases Nat.eq_or_lt_of_le hp with rfl | hpr
                    · have hq1 : ((j + 1 + 1 + p : Nat) : Int) = (j + 1 + 1 : Nat) + (p : Int) := by omega
                      have hlt : decide (j + 1 + 1 + p < j + 1 + 1 + p) = false := by simp
                      have hne2 : (((j + 1 + 1 + p : Nat) : Int) == ((j : Int) + 1 + 1)) = false := by simp; omega
                      have hax : (a : Int) = numL xs := by
                        have h := hA.out
                        rw [List.take_of_length_le (by rw [← HT.out.2.2.2.1]; exact Nat.le_refl _)] at h
                        omega
                      have HAX := Lib.hid hax
                      have hs1 : decide (-2000 ≤ v + (a : Int)) = true := by simp; omega
                      have hs2 : decide (v + (a : Int) ≤ 2000) = true := by simp; omega
                      clear hax hp hq1
                      go_wp2_with fail
                      go_returns
                      refine ⟨q, c, k, ys, ?_, HR.out.1⟩
                      have hv := HR.out.2
                      have hex : expV sg xs = (a : Int) := by
                        rw [HAX.out, expV, HGS.out]
                        simp
                      rw [hex, ← hv]
                    · obtain ⟨h20, h2b⟩ := HBX.out p hpr
                      have hx48 := HX.out.1 xs[p] (List.getElem_mem _)
                      have hnt := numL_take xs p h20
                      have hnl := numL_lt (xs.take (p + 1)) (isDig_take HX.out.1 _)
                      have hl3 : 10 ^ (xs.take (p + 1)).length ≤ 1000 := Nat.le_trans (Nat.pow_le_pow_right (by decide) (by rw [List.length_take]; have := HT.out.2.2.2.1; omega : (xs.take (p + 1)).length ≤ 3)) (by decide)
                      obtain ⟨y, hy⟩ : ∃ y, y = xs[p].toNat := ⟨_, rfl⟩
                      rw [← hy] at h2b hx48 hnt
                      clear hy
                      have hnew : 10 * a + (y - 48) = numL (xs.take (p + 1)) := by rw [hnt, ← hA.out]; omega
                      have hlt9 : 10 * a + (y - 48) < 1000 := by omega
                      have HNW := Lib.hid hnew
                      have hlt : j + 1 + 1 + p < j + 1 + 1 + r := by omega
                      replace h2b : ∀ W, (Instr.index 9 (.string t) (.int .i64 ((j + 1 + 1 + p : Nat) : Int))).run Tryd.prog W = .ok (.int .u8 (y : Int)) W := h2b
                      have h2c : ∀ W, (Instr.index 9 (.string t) (.int .i64 (((j : Int) + 1 + 1) + (p : Int)))).run Tryd.prog W = .ok (.int .u8 (y : Int)) W := fun W => by
                        rw [show (((j : Int) + 1 + 1) + (p : Int)) = ((j + 1 + 1 + p : Nat) : Int) by omega]
                        exact h2b W
                      clear hnew hnl hl3 hnt h20 hp
                      go_wp2_with fail
                      refine ⟨⟨p + 1, 10 * a + (y - 48), by congr 1, by omega, ?_, hlt9, trivial, Lib.hid HNW.out⟩, by simp [intOf]; omega⟩
                      congr 1
                      omega
                · obtain rfl : g = 1 := by have := HT.out.2.2.2.2; rw [hsg] at this; simpa using this
                  have h2b := HSG.out 45 hsg
                  have HGS := Lib.hid hsg
                  clear hsg
                  replace h2b : ∀ W, (Instr.index 9 (.string t) (.int .i64 ((j : Int) + 1))).run Tryd.prog W = .ok (.int .u8 45) W := h2b
                  have hlt1 : j < j + 1 + 1 + r := by omega
                  have hlt2 : j + 1 < j + 1 + 1 + r := by omega
                  go_wp2_with fail
                  clear h2b hlt1 hlt2 hee
                  as_aux_lemma =>
                  go_loopw [7, 10] (fun vi vn wz => ∃ (p a : Nat), vi = .int .i64 ((j + 1 + 1 + p : Nat) : Int) ∧ p ≤ r ∧ vn = .int .i64 (a : Int) ∧ a < 1000 ∧ wz = wo ∧ Hid (a = numL (xs.take p))) (fun vi _ _ => r - ((intOf vi).toNat - (j + 1 + 1)))
                  case atStart => exact ⟨0, 0, congrArg (Value.int .i64) (by omega), Nat.zero_le _, rfl, by omega, rfl, Lib.hid (by simp [numL])⟩
                  case round =>
                    obtain ⟨p, a, rfl, hp, rfl, ha, rfl, hA⟩ := hrel
                    rcases Nat.eq_or_lt_of_le hp with rfl | hpr
                    · have hq1 : ((j + 1 + 1 + p : Nat) : Int) = (j + 1 + 1 : Nat) + (p : Int) := by omega
                      have hlt : decide (j + 1 + 1 + p < j + 1 + 1 + p) = false := by simp
                      have hne2 : (((j + 1 + 1 + p : Nat) : Int) == ((j : Int) + 1 + 1)) = false := by simp; omega
                      have hax : (a : Int) = numL xs := by
                        have h := hA.out
                        rw [List.take_of_length_le (by rw [← HT.out.2.2.2.1]; exact Nat.le_refl _)] at h
                        omega
                      have HAX := Lib.hid hax
                      have hs1 : decide (-2000 ≤ v + -(a : Int)) = true := by simp; omega
                      have hs2 : decide (v + -(a : Int) ≤ 2000) = true := by simp; omega
                      clear hax hp hq1
                      go_wp2_with fail
                      go_returns
                      refine ⟨q, c, k, ys, ?_, HR.out.1⟩
                      have hv := HR.out.2
                      have hex : expV sg xs = -(a : Int) := by
                        rw [HAX.out, expV, HGS.out]
                        simp
                      rw [hex, ← hv]
                    · obtain ⟨h20, h2b⟩ := HBX.out p hpr
                      have hx48 := HX.out.1 xs[p] (List.getElem_mem _)
                      have hnt := numL_take xs p h20
                      have hnl := numL_lt (xs.take (p + 1)) (isDig_take HX.out.1 _)
                      have hl3 : 10 ^ (xs.take (p + 1)).length ≤ 1000 := Nat.le_trans (Nat.pow_le_pow_right (by decide) (by rw [List.length_take]; have := HT.out.2.2.2.1; omega : (xs.take (p + 1)).length ≤ 3)) (by decide)
                      obtain ⟨y, hy⟩ : ∃ y, y = xs[p].toNat := ⟨_, rfl⟩
                      rw [← hy] at h2b hx48 hnt
                      clear hy
                      have hnew : 10 * a + (y - 48) = numL (xs.take (p + 1)) := by rw [hnt, ← hA.out]; omega
                      have hlt9 : 10 * a + (y - 48) < 1000 := by omega
                      have HNW := Lib.hid hnew
                      have hlt : j + 1 + 1 + p < j + 1 + 1 + r := by omega
                      replace h2b : ∀ W, (Instr.index 9 (.string t) (.int .i64 ((j + 1 + 1 + p : Nat) : Int))).run Tryd.prog W = .ok (.int .u8 (y : Int)) W := h2b
                      have h2c : ∀ W, (Instr.index 9 (.string t) (.int .i64 (((j : Int) + 1 + 1) + (p : Int)))).run Tryd.prog W = .ok (.int .u8 (y : Int)) W := fun W => by
                        rw [show (((j : Int) + 1 + 1) + (p : Int)) = ((j + 1 + 1 + p : Nat) : Int) by omega]
                        exact h2b W
                      clear hnew hnl hl3 hnt h20 hp
                      go_wp2_with fail
                      refine ⟨⟨p + 1, 10 * a + (y - 48), by congr 1, by omega, ?_, hlt9, trivial, Lib.hid HNW.out⟩, by simp [intOf]; omega⟩
                      congr 1
                      omega
              · have hjL : j < L.length := by rw [HT.out.2.2.1]; omega
                have hjl : j < l.length := by rw [← HT.out.2.1]; exact hji
                have hy := byte_at t L HT.out.1 j hjL
                have hLj : L[j] = l[j] := by
                  simp only [HLL.out]
                  exact List.getElem_append_left hjl
                rw [hLj] at hy
                obtain ⟨x, hx⟩ : ∃ x, x = l[j] := ⟨_, rfl⟩
                have hbh : behindD l (j + 1) = if l[j].toNat = 46 then l.length - j - 1 else behindD l j := by rw [behindD, dif_pos hjl]
                rw [← hx] at hy hbh
                obtain ⟨y, hyy⟩ : ∃ y, y = x.toNat := ⟨_, rfl⟩
                rw [← hyy] at hy hbh
                have hj1 : j < i + 1 + g + r := by omega
                clear hx hyy hj hLj
                have HH := Lib.hid hbh
                clear hbh
                have hin := HT.out.2.1
                have HIN := Lib.hid hin
                clear hin
                by_cases h46 : y = 46
                · subst h46
                  go_wp2_with fail
                  exact ⟨⟨j + 1, _, by go_num, by omega, rfl, by omega, by omega, trivial, Lib.hid (by rw [HH.out, if_pos rfl]; have := HIN.out; omega)⟩, by simp [intOf]; omega⟩
                · have hq46 : ((y : Int) == 46) = false := by simp; omega
                  have H46 := Lib.hid h46
                  clear h46
                  go_wp2_with fail
                  exact ⟨⟨j + 1, v, by go_num, by omega, rfl, hv1, hv2, trivial, Lib.hid (by rw [HH.out, if_neg H46.out]; exact hV.out)⟩, by simp [intOf]; omega⟩
end Go.Proofs.YtnfddblpenninaaDoor
