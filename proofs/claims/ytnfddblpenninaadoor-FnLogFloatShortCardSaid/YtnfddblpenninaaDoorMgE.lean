/- Numbers compared: the walk. -/
import Derived.Test.YtnfddblpenninaaDoorMgD
namespace Go.Proofs.YtnfddblpenninaaDoor
open Go.RowKit

theorem below_drewN {B : Nat} {w w' : World} (h : Below B w w') (n : Nat) : Below B w (w'.drewN n) := ⟨h.os, h.tape, h.output, h.size, h.block⟩
set_option maxRecDepth 100000 in
set_option maxHeartbeats 4000000 in
theorem order_walk (p q : Option Addr) (cp cq n m : Nat) (xs ys : List Nat) (w : World) (hx : NatAt w p xs) (hy : NatAt w q ys) (hn : xs.length = n) (hm : ys.length = m) (hn1 : n ≤ 10000) (hm1 : m ≤ 10000) (hcp : n ≤ cp) (hcq : m ≤ cq) :
    Calls Tryd.prog 15 #[.slice p n cp, .slice q m cq] w fun e w' => e = .returned (.int .i64 (cmpN (wval xs) (wval ys))) ∧ Below w.heap.size w w' := by
  have HX := Lib.hid (And.intro hx hn)
  have HY := Lib.hid (And.intro hy hm)
  clear hx hy hn hm
  go_enter Tryd.func15, Tryd.ntmps15
  go_wp2_with fail
  go_loopw [0] (fun va wr => ∃ (k : Nat), va = .slice p k cp ∧ wr = w ∧ k ≤ n ∧ Hid (Strip xs k)) (fun va _ => match va with | .slice _ k _ => k | _ => 0)
  case atStart => exact ⟨n, rfl, rfl, Nat.le_refl _, Lib.hid (by rw [← HX.out.2]; exact Strip.start xs)⟩
  case round =>
    obtain ⟨k, rfl, rfl, hkn, hK⟩ := hrel
    obtain ⟨b, hb⟩ : ∃ b, b = more xs k := ⟨_, rfl⟩
    have HBb := Lib.hid hb
    clear hb
    go_upto_region 1 with fail
    go_cut [17] (fun t wc => t = .bool b ∧ wr = wc)
    case first =>
      rcases k with _ | k
      · go_wp2_with fail
        go_meet
        exact ⟨congrArg Value.bool (by rw [HBb.out]; rfl), rfl⟩
      · have hkl : k < xs.length := by rw [HX.out.2]; omega
        obtain ⟨g, hp, hg, hc⟩ := HX.out.1.2 k hkl
        obtain ⟨x, hxx⟩ : ∃ x, x = xs[k] := ⟨_, rfl⟩
        rw [← hxx] at hc
        replace hc : wr.cell? ⟨g, k, none⟩ = some (.int .u32 (x : Int)) := hc
        subst hp
        have HXX := Lib.hid hxx
        clear hxx
        go_wp2_with fail
        go_meet
        refine ⟨congrArg Value.bool ?_, rfl⟩
        rw [HBb.out, more, Nat.add_sub_cancel, List.getElem?_eq_getElem hkl, ← HXX.out]
        exact Bool.eq_iff_iff.2 (by simp)
    case rest =>
      obtain ⟨rfl, rfl⟩ := hcut
      cases b
      · have HT := Lib.hid (more_no HBb.out.symm hK.out)
        clear hK HBb
        obtain ⟨ka, hka⟩ : ∃ ka, ka = k := ⟨_, rfl⟩
        subst hka
        go_wp2_with fail
        go_loopw [1] (fun vb wr' => ∃ (k : Nat), vb = .slice q k cq ∧ wr' = wr ∧ k ≤ m ∧ Hid (Strip ys k)) (fun vb _ => match vb with | .slice _ k _ => k | _ => 0)
        case atStart => exact ⟨m, rfl, rfl, Nat.le_refl _, Lib.hid (by rw [← HY.out.2]; exact Strip.start ys)⟩
        case round =>
          obtain ⟨k, rfl, rfl, hkm, hK⟩ := hrel
          obtain ⟨b, hb⟩ : ∃ b, b = more ys k := ⟨_, rfl⟩
          have HBb := Lib.hid hb
          clear hb
          go_upto_region 3 with fail
          go_cut [34] (fun t wc => t = .bool b ∧ wr = wc)
          case first =>
            rcases k with _ | k
            · go_wp2_with fail
              go_meet
              exact ⟨congrArg Value.bool (by rw [HBb.out]; rfl), rfl⟩
            · have hkl : k < ys.length := by rw [HY.out.2]; omega
              obtain ⟨g, hp, hg, hc⟩ := HY.out.1.2 k hkl
              obtain ⟨x, hxx⟩ : ∃ x, x = ys[k] := ⟨_, rfl⟩
              rw [← hxx] at hc
              replace hc : wr.cell? ⟨g, k, none⟩ = some (.int .u32 (x : Int)) := hc
              subst hp
              have HXX := Lib.hid hxx
              clear hxx
              go_wp2_with fail
              go_meet
              refine ⟨congrArg Value.bool ?_, rfl⟩
              rw [HBb.out, more, Nat.add_sub_cancel, List.getElem?_eq_getElem hkl, ← HXX.out]
              exact Bool.eq_iff_iff.2 (by simp)
          case rest =>
            obtain ⟨rfl, rfl⟩ := hcut
            cases b
            · have HU := Lib.hid (more_no HBb.out.symm hK.out)
              clear hK HBb
              rcases Nat.lt_trichotomy ka k with hlt | heq | hgt
              · have hc := cmp_lt (trim_lt HX.out.1.1 HT.out HU.out hlt)
                have HC := Lib.hid hc
                clear hc
                have hne : ((ka : Int) == (k : Int)) = false := by simp; omega
                have hl2 : decide ((ka : Int) < (k : Int)) = true := by simp; omega
                go_wp2_with fail
                go_returns
                exact ⟨by rw [HC.out]; rfl, Below.refl _ _⟩
              · subst heq
                have hk1 := HT.out.1
                have hk2 := HU.out.1
                go_wp2_with fail
                obtain ⟨wo, hwo⟩ : ∃ wo, wo = wr := ⟨_, rfl⟩
                subst hwo
                go_loopw [5] (fun vi wz => ∃ (j : Nat) (v : Int), vi = .int .i64 v ∧ v = (j : Int) - 1 ∧ j ≤ ka ∧ Hid (Same xs ys ka j ∧ Below wo.heap.size wo wz)) (fun vi _ => (intOf vi + 1).toNat)
                case atStart => exact ⟨ka, _, rfl, rfl, Nat.le_refl _, Lib.hid ⟨fun j h1 h2 => by omega, Below.refl _ _⟩⟩
                case round =>
                  obtain ⟨j, v, rfl, hv, hj, hS⟩ := hrel
                  rcases j with _ | j
                  · obtain rfl : v = -1 := by omega
                    clear hv
                    have hsame := same_all hS.out.1
                    have hc : cmpN (wval xs) (wval ys) = 0 := cmp_eq (by rw [← HT.out.2.2, ← HU.out.2.2, hsame])
                    have HC := Lib.hid hc
                    clear hc hsame
                    go_wp2_with fail
                    go_returns
                    exact ⟨by rw [HC.out]; rfl, hS.out.2⟩
                  · obtain rfl : v = (j : Int) := by omega
                    clear hv
                    have hjx : j < xs.length := by omega
                    have hjy : j < ys.length := by omega
                    obtain ⟨g, hp, hg, hc⟩ := (HX.out.1.below hS.out.2).2 j hjx
                    obtain ⟨g2, hp2, hg2, hc2⟩ := (HY.out.1.below hS.out.2).2 j hjy
                    obtain ⟨x, hxx⟩ : ∃ x, x = xs[j] := ⟨_, rfl⟩
                    obtain ⟨y, hyy⟩ : ∃ y, y = ys[j] := ⟨_, rfl⟩
                    rw [← hxx] at hc
                    rw [← hyy] at hc2
                    replace hc : wr.cell? ⟨g, j, none⟩ = some (.int .u32 (x : Int)) := hc
                    replace hc2 : wr.cell? ⟨g2, j, none⟩ = some (.int .u32 (y : Int)) := hc2
                    subst hp hp2
                    have HXX := Lib.hid (And.intro hxx hyy)
                    clear hxx hyy
                    by_cases he : x = y
                    · subst he
                      go_wp2_with fail
                      go_quiet (fail)
                      go_wp2_with fail
                      exact ⟨⟨j, (j : Int) - 1, rfl, rfl, by omega, Lib.hid ⟨hS.out.1.down hjx hjy (by rw [← HXX.out.1, ← HXX.out.2]), below_drewN hS.out.2 _⟩⟩, by simp [intOf]⟩
                    · have hne : ((x : Int) == (y : Int)) = false := by simp; omega
                      have hne2 : ((x : Int) != (y : Int)) = true := by simp; omega
                      by_cases hlt : x < y
                      · have hc : cmpN (wval xs) (wval ys) = -1 := cmp_lt (by
                          have := lt_at HX.out.1.1 hk1 hk2 j (by omega) hS.out.1 (by rw [← HXX.out.1, ← HXX.out.2]; exact hlt)
                          rwa [HT.out.2.2, HU.out.2.2] at this)
                        have HC := Lib.hid hc
                        have hl2 : decide ((x : Int) < (y : Int)) = true := by simp; omega
                        have hl3 : decide (x < y) = true := by simp; omega
                        clear hc he hlt
                        go_wp2_with fail
                        go_quiet (fail)
                        go_wp2_with fail
                        go_quiet (fail)
                        go_wp2_with fail
                        go_returns
                        exact ⟨by rw [HC.out]; rfl, below_drewN (below_drewN hS.out.2 _) _⟩
                      · have hc : cmpN (wval xs) (wval ys) = 1 := cmp_gt (by
                          have := lt_at HY.out.1.1 hk2 hk1 j (by omega) (fun i h1 h2 => (hS.out.1 i h1 h2).symm) (by rw [← HXX.out.1, ← HXX.out.2]; omega)
                          rwa [HT.out.2.2, HU.out.2.2] at this)
                        have HC := Lib.hid hc
                        have hl2 : decide ((x : Int) < (y : Int)) = false := by simp; omega
                        have hl3 : decide (x < y) = false := by simp; omega
                        clear hc he hlt
                        go_wp2_with fail
                        go_quiet (fail)
                        go_wp2_with fail
                        go_quiet (fail)
                        go_wp2_with fail
                        go_returns
                        exact ⟨by rw [HC.out]; rfl, below_drewN (below_drewN hS.out.2 _) _⟩
              · have hc := cmp_gt (trim_lt HY.out.1.1 HU.out HT.out hgt)
                have HC := Lib.hid hc
                clear hc
                have hne : ((ka : Int) == (k : Int)) = false := by simp; omega
                have hl2 : decide ((ka : Int) < (k : Int)) = false := by simp; omega
                go_wp2_with fail
                go_returns
                exact ⟨by rw [HC.out]; rfl, Below.refl _ _⟩
            · obtain ⟨j, rfl, hj⟩ := more_yes HBb.out.symm hK.out
              have HJ := Lib.hid hj
              clear hj HBb
              go_wp2_with fail
              exact ⟨⟨j, rfl, trivial, by omega, HJ⟩, Nat.lt_succ_self j⟩
      · obtain ⟨j, rfl, hj⟩ := more_yes HBb.out.symm hK.out
        have HJ := Lib.hid hj
        clear hj HBb
        go_wp2_with fail
        exact ⟨⟨j, rfl, trivial, by omega, HJ⟩, Nat.lt_succ_self j⟩
#print axioms order_walk
end Go.Proofs.YtnfddblpenninaaDoor
/- Two numbers with powers compared; whether one is even. -/
namespace Go.Proofs.YtnfddblpenninaaDoor
open Go.RowKit

/-- d times 10 to the e against m times 2 to the k. -/
def sideN (d : Nat) (e : Int) (m : Nat) (k : Int) : Int := cmpN (d * 10 ^ e.toNat * 2 ^ (-k).toNat) (m * 10 ^ (-e).toNat * 2 ^ k.toNat)
theorem two_words (w : World) (m : Nat) (hm : m < 18446744073709551616) : NatAt (w.alloc (.cells #[.int .u32 ((m : Int) % 4294967296), .int .u32 ((m : Int) / 4294967296)] 40)) (some ⟨w.heap.size, 0, none⟩) [m % 4294967296, m / 4294967296] := by
  have hw := Whole.new w 40 #[.int .u32 ((m : Int) % 4294967296), .int .u32 ((m : Int) / 4294967296)]
  refine ⟨?_, fun i hi => ⟨_, rfl, hw.lt, ?_⟩⟩
  · intro x hx
    simp only [List.mem_cons, List.not_mem_nil, or_false] at hx
    rcases hx with rfl | rfl <;> omega
  · rw [hw.cell]
    rcases i with _ | _ | i
    · simp [wordV]
    · simp [wordV]
    · simp at hi
      omega
theorem two_val (m : Nat) : wval [m % 4294967296, m / 4294967296] = m := by
  simp only [wval]
  omega

theorem shifted_int (p : Option Addr) (cp : Nat) (xs : List Nat) (n : Int) (w : World) (h : NatAt w p xs) (l : Nat) (hl : xs.length = l) (hl1 : l ≤ 3000) (hcp : l ≤ cp) (h0 : 0 ≤ n) (hn : n ≤ 1500) :
    Calls Tryd.prog 29 #[.slice p l cp, .int .i64 n] w (NEnd w (wval xs * 2 ^ n.toNat) (l + 1501)) := by
  obtain ⟨k, rfl⟩ := Int.eq_ofNat_of_zero_le h0
  refine (shifted_walk p cp xs k w h l hl hl1 hcp (by omega)).mono ?_
  rintro e w' ⟨q, c, ys, h1, h2, h3, h4, h5⟩
  exact ⟨q, c, ys, h1, h2, h3, by omega, h5⟩
theorem tens_int (p : Option Addr) (cp : Nat) (xs : List Nat) (n : Int) (w : World) (h : NatAt w p xs) (l : Nat) (hl : xs.length = l) (hl1 : l ≤ 3000) (hcp : l ≤ cp) (h0 : 0 ≤ n) (hn : n ≤ 1000) :
    Calls Tryd.prog 28 #[.slice p l cp, .int .i64 n] w (NEnd w (wval xs * 10 ^ n.toNat) (l + 1001)) := by
  obtain ⟨k, rfl⟩ := Int.eq_ofNat_of_zero_le h0
  refine (tens_walk p cp xs k w h l hl hl1 hcp (by omega)).mono ?_
  rintro e w' ⟨q, c, ys, h1, h2, h3, h4, h5⟩
  exact ⟨q, c, ys, h1, h2, h3, by omega, h5⟩

set_option maxRecDepth 100000 in
set_option maxHeartbeats 4000000 in
theorem side_walk (p : Option Addr) (cp l : Nat) (xs : List Nat) (e k : Int) (m : Nat) (w : World) (h : NatAt w p xs) (hl : xs.length = l) (hl1 : l ≤ 500) (hcp : l ≤ cp) (hm : m < 18446744073709551616) (he1 : -1000 ≤ e) (he2 : e ≤ 1000) (hk1 : -1500 ≤ k) (hk2 : k ≤ 1500) :
    Calls Tryd.prog 17 #[.slice p l cp, .int .i64 e, .int .u64 (m : Int), .int .i64 k] w fun e' w' => e' = .returned (.int .i64 (sideN (wval xs) e m k)) ∧ Below w.heap.size w w' := by
  have hsh : (m : Int) / 4294967296 < 4294967296 := by omega
  have hy := two_words w m hm
  have HY := Lib.hid hy
  have HX := Lib.hid (And.intro (h.below ((Below.refl w.heap.size w).alloc (Nat.le_refl _) (.cells #[.int .u32 ((m : Int) % 4294967296), .int .u32 ((m : Int) / 4294967296)] 40))) hl)
  have HM := Lib.hid hm
  clear hy h hl hm
  rcases Int.lt_or_le e 0 with he0 | he0
  · rcases Int.lt_or_le k 0 with hk0 | hk0
    · have hde : decide ((0 : Int) ≤ e) = false := by simp; omega
      have HE0 := Lib.hid he0
      clear he0
      have hdk : decide ((0 : Int) ≤ k) = false := by simp; omega
      have HK0 := Lib.hid hk0
      clear hk0
      go_enter Tryd.func17, Tryd.ntmps17
      go_wp2_with (first
        | (go_at_call 28; refine (tens_int (some ⟨w.heap.size, 0, none⟩) 2 [m % 4294967296, m / 4294967296] (-e) _ HY.out 2 rfl (by omega) (Nat.le_refl 2) (by have := HE0.out; omega) (by omega)).mono ?_; rintro e1 w2 ⟨q2, c2, zs, rfl, h1, h2, h3, h4⟩; have H2 := Lib.hid (And.intro h1 (And.intro h2 (And.intro h3 h4))); clear h1 h2 h3 h4)
        | (go_at_call 29; refine (shifted_int p cp xs (-k) _ (HX.out.1.below H2.out.2.2.2) l HX.out.2 (by omega) hcp (by have := HK0.out; omega) (by omega)).mono ?_; rintro e2 w3 ⟨q3, c3, us, rfl, h1, h2, h3, h4⟩; have H3 := Lib.hid (And.intro h1 (And.intro h2 (And.intro h3 h4))); clear h1 h2 h3 h4)
        | (go_at_call 15; refine (order_walk q3 q2 c3 c2 us.length zs.length us zs _ H3.out.1.1 (H2.out.1.1.below H3.out.2.2.2) rfl rfl (by have := H3.out.2.2.1; have := H2.out.2.2.1; omega) (by have := H3.out.2.2.1; have := H2.out.2.2.1; omega) H3.out.1.2 H2.out.1.2).mono ?_; rintro e3 w4 ⟨rfl, h4⟩; have H4 := Lib.hid h4; clear h4))
      go_returns
      have e2 := H2.out.2.1
      have e3 := H3.out.2.1
      refine ⟨?_, below_next (below_next (below_next ((Below.refl w.heap.size w).alloc (Nat.le_refl _) _) H2.out.2.2.2) H3.out.2.2.2) H4.out⟩
      have z1 : e.toNat = 0 := by have := HE0.out; omega
      have z2 : k.toNat = 0 := by have := HK0.out; omega
      show Ending.returned (.int .i64 (cmpN _ _)) = .returned (.int .i64 (sideN _ _ _ _))
      rw [sideN, e3, e2, z1, z2]
      simp only [two_val, Nat.pow_zero, Nat.mul_one]
    · have hde : decide ((0 : Int) ≤ e) = false := by simp; omega
      have HE0 := Lib.hid he0
      clear he0
      go_enter Tryd.func17, Tryd.ntmps17
      go_wp2_with (first
        | (go_at_call 28; refine (tens_int (some ⟨w.heap.size, 0, none⟩) 2 [m % 4294967296, m / 4294967296] (-e) _ HY.out 2 rfl (by omega) (Nat.le_refl 2) (by have := HE0.out; omega) (by omega)).mono ?_; rintro e1 w2 ⟨q2, c2, zs, rfl, h1, h2, h3, h4⟩; have H2 := Lib.hid (And.intro h1 (And.intro h2 (And.intro h3 h4))); clear h1 h2 h3 h4)
        | (go_at_call 29; refine (shifted_int q2 c2 zs k _ H2.out.1.1 zs.length rfl (by have := H2.out.2.2.1; omega) H2.out.1.2 (by omega) (by omega)).mono ?_; rintro e2 w3 ⟨q3, c3, us, rfl, h1, h2, h3, h4⟩; have H3 := Lib.hid (And.intro h1 (And.intro h2 (And.intro h3 h4))); clear h1 h2 h3 h4)
        | (go_at_call 15; refine (order_walk p q3 cp c3 l us.length xs us _ ((HX.out.1.below H2.out.2.2.2).below H3.out.2.2.2) H3.out.1.1 HX.out.2 rfl (by have := H3.out.2.2.1; have := H2.out.2.2.1; omega) (by have := H3.out.2.2.1; have := H2.out.2.2.1; omega) hcp H3.out.1.2).mono ?_; rintro e3 w4 ⟨rfl, h4⟩; have H4 := Lib.hid h4; clear h4))
      go_returns
      have e2 := H2.out.2.1
      have e3 := H3.out.2.1
      refine ⟨?_, below_next (below_next (below_next ((Below.refl w.heap.size w).alloc (Nat.le_refl _) _) H2.out.2.2.2) H3.out.2.2.2) H4.out⟩
      have z1 : e.toNat = 0 := by have := HE0.out; omega
      have z2 : (-k).toNat = 0 := by omega
      show Ending.returned (.int .i64 (cmpN _ _)) = .returned (.int .i64 (sideN _ _ _ _))
      rw [sideN, e3, e2, z1, z2]
      simp only [two_val, Nat.pow_zero, Nat.mul_one]
  · rcases Int.lt_or_le k 0 with hk0 | hk0
    · have hdk : decide ((0 : Int) ≤ k) = false := by simp; omega
      have HK0 := Lib.hid hk0
      clear hk0
      go_enter Tryd.func17, Tryd.ntmps17
      go_wp2_with (first
        | (go_at_call 28; refine (tens_int p cp xs e _ HX.out.1 l HX.out.2 (by omega) hcp he0 he2).mono ?_; rintro e1 w2 ⟨q2, c2, zs, rfl, h1, h2, h3, h4⟩; have H2 := Lib.hid (And.intro h1 (And.intro h2 (And.intro h3 h4))); clear h1 h2 h3 h4)
        | (go_at_call 29; refine (shifted_int q2 c2 zs (-k) _ H2.out.1.1 zs.length rfl (by have := H2.out.2.2.1; omega) H2.out.1.2 (by have := HK0.out; omega) (by omega)).mono ?_; rintro e2 w3 ⟨q3, c3, us, rfl, h1, h2, h3, h4⟩; have H3 := Lib.hid (And.intro h1 (And.intro h2 (And.intro h3 h4))); clear h1 h2 h3 h4)
        | (go_at_call 15; refine (order_walk q3 (some ⟨w.heap.size, 0, none⟩) c3 2 us.length 2 us [m % 4294967296, m / 4294967296] _ H3.out.1.1 ((HY.out.below H2.out.2.2.2).below H3.out.2.2.2) rfl rfl (by have := H3.out.2.2.1; have := H2.out.2.2.1; omega) (by have := H3.out.2.2.1; have := H2.out.2.2.1; omega) H3.out.1.2 (Nat.le_refl 2)).mono ?_; rintro e3 w4 ⟨rfl, h4⟩; have H4 := Lib.hid h4; clear h4))
      go_returns
      have e2 := H2.out.2.1
      have e3 := H3.out.2.1
      refine ⟨?_, below_next (below_next (below_next ((Below.refl w.heap.size w).alloc (Nat.le_refl _) _) H2.out.2.2.2) H3.out.2.2.2) H4.out⟩
      have z1 : (-e).toNat = 0 := by omega
      have z2 : k.toNat = 0 := by have := HK0.out; omega
      show Ending.returned (.int .i64 (cmpN _ _)) = .returned (.int .i64 (sideN _ _ _ _))
      rw [sideN, e3, e2, z1, z2]
      simp only [two_val, Nat.pow_zero, Nat.mul_one]
    · go_enter Tryd.func17, Tryd.ntmps17
      go_wp2_with (first
        | (go_at_call 28; refine (tens_int p cp xs e _ HX.out.1 l HX.out.2 (by omega) hcp he0 he2).mono ?_; rintro e1 w2 ⟨q2, c2, zs, rfl, h1, h2, h3, h4⟩; have H2 := Lib.hid (And.intro h1 (And.intro h2 (And.intro h3 h4))); clear h1 h2 h3 h4)
        | (go_at_call 29; refine (shifted_int (some ⟨w.heap.size, 0, none⟩) 2 [m % 4294967296, m / 4294967296] k _ (HY.out.below H2.out.2.2.2) 2 rfl (by omega) (Nat.le_refl 2) (by omega) (by omega)).mono ?_; rintro e2 w3 ⟨q3, c3, us, rfl, h1, h2, h3, h4⟩; have H3 := Lib.hid (And.intro h1 (And.intro h2 (And.intro h3 h4))); clear h1 h2 h3 h4)
        | (go_at_call 15; refine (order_walk q2 q3 c2 c3 zs.length us.length zs us _ (H2.out.1.1.below H3.out.2.2.2) H3.out.1.1 rfl rfl (by have := H3.out.2.2.1; have := H2.out.2.2.1; omega) (by have := H3.out.2.2.1; have := H2.out.2.2.1; omega) H2.out.1.2 H3.out.1.2).mono ?_; rintro e3 w4 ⟨rfl, h4⟩; have H4 := Lib.hid h4; clear h4))
      go_returns
      have e2 := H2.out.2.1
      have e3 := H3.out.2.1
      refine ⟨?_, below_next (below_next (below_next ((Below.refl w.heap.size w).alloc (Nat.le_refl _) _) H2.out.2.2.2) H3.out.2.2.2) H4.out⟩
      have z1 : (-e).toNat = 0 := by omega
      have z2 : (-k).toNat = 0 := by omega
      show Ending.returned (.int .i64 (cmpN _ _)) = .returned (.int .i64 (sideN _ _ _ _))
      rw [sideN, e3, e2, z1, z2]
      simp only [two_val, Nat.pow_zero, Nat.mul_one]
#print axioms side_walk
end Go.Proofs.YtnfddblpenninaaDoor
/- A number less one; whether it is even. -/
namespace Go.Proofs.YtnfddblpenninaaDoor
open Go.RowKit

theorem wval_mod (xs : List Nat) (h : 0 < xs.length) : wval xs % 2 = xs[0] % 2 := by
  cases xs with
  | nil => simp at h
  | cons x r =>
    simp only [wval, List.getElem_cons_zero]
    omega
set_option maxRecDepth 100000 in
theorem even_walk (p : Option Addr) (cp l : Nat) (xs : List Nat) (w : World) (h : NatAt w p xs) (hl : xs.length = l) (hl1 : l ≤ 10000) :
    Calls Tryd.prog 18 #[.slice p l cp] w fun e w' => e = .returned (.bool (wval xs % 2 == 0)) ∧ w = w' := by
  rcases Nat.eq_zero_or_pos l with rfl | hpos
  · obtain rfl : xs = [] := List.length_eq_zero_iff.1 hl
    clear h hl
    go_enter Tryd.func18, Tryd.ntmps18
    go_wp2_with fail
    go_returns
    exact ⟨rfl, rfl⟩
  · obtain ⟨g, hp, hg, hc⟩ := h.2 0 (by omega)
    have hm := wval_mod xs (by omega)
    obtain ⟨x, hx⟩ : ∃ x, x = xs[0]'(by omega) := ⟨_, rfl⟩
    rw [← hx] at hc hm
    replace hc : w.cell? ⟨g, 0, none⟩ = some (.int .u32 (x : Int)) := hc
    subst hp
    have HM := Lib.hid hm
    clear h hl hm hx
    go_enter Tryd.func18, Tryd.ntmps18
    go_wp2_with fail
    go_returns
    refine ⟨?_, rfl⟩
    rw [HM.out]
    exact congrArg (fun b => Ending.returned (.bool b)) (Bool.eq_iff_iff.2 (by simp; omega))

theorem wval_set : ∀ (l : List Nat) (i c : Nat) (h : i < l.length), wval (l.set i c) + 4294967296 ^ i * l[i] = wval l + 4294967296 ^ i * c
  | x :: r, 0, c, _ => by simp [wval]; omega
  | x :: r, i + 1, c, h => by
    have ih := wval_set r i c (by simpa using h)
    simp only [List.set_cons_succ, wval, List.getElem_cons_succ, Nat.pow_succ]
    have e1 : 4294967296 ^ i * 4294967296 * r[i]'(by simpa using h) = 4294967296 * (4294967296 ^ i * r[i]'(by simpa using h)) := by rw [Nat.mul_comm (4294967296 ^ i), Nat.mul_assoc]
    have e2 : 4294967296 ^ i * 4294967296 * c = 4294967296 * (4294967296 ^ i * c) := by rw [Nat.mul_comm (4294967296 ^ i), Nat.mul_assoc]
    rw [e1, e2]
    omega
theorem WB.turn {w : World} {b cap : Nat} {l : List Nat} (h : WB w b cap l) (i c : Nat) (hi : i < l.length) : WB (w.setCell ⟨b, i, none⟩ (wordV c)) b cap (l.set i c) := by
  obtain ⟨cs, hw, hs, hl, hc⟩ := h
  refine ⟨cs.setIfInBounds i (wordV c), hw.set i _, by simpa using hs, by simpa using hl, fun j hj => ?_⟩
  have hj' : j < l.length := by simpa using hj
  rw [Array.getElem?_setIfInBounds, List.getElem_set]
  by_cases h : i = j
  · subst h
    rw [if_pos rfl, if_pos (by omega), if_pos rfl]
  · rw [if_neg h, if_neg h, hc j hj']
theorem own_empty (w : World) (base : Nat) (e : TypeId) (size : Nat) (hb : base ≤ w.heap.size) : (w.alloc (.cells #[] e)).ownsRow base e size (.slice (some ⟨w.heap.size, 0, none⟩) 0 0) 0 [] :=
  ⟨by simp, .inr ⟨w.heap.size, 0, #[], rfl, hb, Whole.new w e #[], by simp, by simp⟩⟩
theorem wb_of_row {w : World} {base n : Nat} {v : Value} {xs : List Nat} (h : w.ownsRow base 40 1 v n (xs.map wordV)) (h0 : 0 < n) : ∃ g cap, v = .slice (some ⟨g, 0, none⟩) n cap ∧ base ≤ g ∧ WB w g cap xs ∧ n ≤ cap := by
  have hlen := h.1
  rcases h.2 with ⟨_, h1⟩ | ⟨g, cap, cur, rfl, hb, hgg, hnc, _, hsz, htk⟩
  · omega
  · rw [List.length_map, Nat.mul_one] at hlen
    refine ⟨g, cap, rfl, hb, ⟨cur, hgg, by omega, by omega, fun i hi => ?_⟩, hnc⟩
    have h5 := congrArg (·[i]?) htk
    simp only [List.getElem?_map, List.getElem?_eq_getElem hi, Option.map_some] at h5
    rw [List.getElem?_take_of_lt (by omega)] at h5
    simpa using h5
set_option maxRecDepth 10000 in
theorem copy_words (w : World) (base c s : Nat) (v : Value) (xs : List Nat) (hown : w.ownsRow base 40 1 v 0 []) (hx : ∀ i (h : i < xs.length), w.cell? ⟨s, i, none⟩ = some (wordV xs[i])) (h0 : 0 < xs.length) (hn : xs.length ≤ 10000) (hbase : base ≤ w.heap.size) :
    ∃ g cap w', (Builtin.append_ #[31, 31] 31 #[v, .slice (some ⟨s, 0, none⟩) xs.length c]).run Tryd.prog w = .ok (.slice (some ⟨g, 0, none⟩) xs.length cap) w' ∧ base ≤ g ∧ WB w' g cap xs ∧ xs.length ≤ cap ∧ w.grownBy w' v.ownBlock := by
  obtain ⟨i0, hi0, hz1, hz0, hz2⟩ := info40
  obtain ⟨v', w', h1, h2, h3, _⟩ := run_append_own_at (P := Tryd.prog) w base 31 31 40 i0 _ 1 4 Tryd.underlying31 hi0 hz0 hz1 hz2 rfl (by omega) v 0 _ hown ⟨s, 0, none⟩ xs.length c (xs.map wordV) (by simp) (by
      intro j u hj
      have hadd : (⟨s, 0, none⟩ : Addr).add j = ⟨s, j, none⟩ := by simp [Addr.add]; omega
      rw [hadd]
      rw [List.getElem?_map] at hj
      obtain ⟨t, ht, rfl⟩ := Option.map_eq_some_iff.1 hj
      obtain ⟨hj', rfl⟩ := List.getElem?_eq_some_iff.1 ht
      exact hx j hj') (by
      intro u hu
      obtain ⟨t, _, rfl⟩ := List.mem_map.1 hu
      rfl) (by unfold maxLen; omega) (by omega) hbase
  rw [Nat.zero_add, List.nil_append] at h2
  obtain ⟨g, cap, rfl, h5, h6, h7⟩ := wb_of_row h2 h0
  exact ⟨g, cap, w', h1, h5, h6, h7, h3⟩
end Go.Proofs.YtnfddblpenninaaDoor
/- A number less one: the walk. -/
namespace Go.Proofs.YtnfddblpenninaaDoor
open Go.RowKit

/-- What 'minus' has done before round i: a one is still to be taken at i. -/
def Borrow (wr : World) (b cap i : Nat) (xs zs : List Nat) : Prop :=
  WB wr b cap zs ∧ zs.length = xs.length ∧ (∀ z ∈ zs, z < 4294967296) ∧ wval zs + 1 = wval xs + 4294967296 ^ i
theorem set_words {l : List Nat} (h : ∀ z ∈ l, z < 4294967296) (i c : Nat) (hc : c < 4294967296) : ∀ z ∈ l.set i c, z < 4294967296 := fun z hz => by
  rcases List.mem_or_eq_of_mem_set hz with hz | rfl
  · exact h z hz
  · exact hc
theorem Borrow.zero {wr w2 : World} {b cap i : Nat} {xs zs : List Nat} (h : Borrow wr b cap i xs zs) (hi : i < zs.length) (h0 : zs[i] = 0) (hw : WB w2 b cap (zs.set i 4294967295)) : Borrow w2 b cap (i + 1) xs (zs.set i 4294967295) := by
  obtain ⟨_, h2, h3, h4⟩ := h
  refine ⟨hw, by rw [List.length_set, h2], set_words h3 i _ (by decide), ?_⟩
  have := wval_set zs i 4294967295 hi
  rw [h0, Nat.mul_zero, Nat.add_zero] at this
  rw [this, Nat.pow_succ]
  omega
theorem Borrow.done {wr w2 : World} {b cap i : Nat} {xs zs : List Nat} (h : Borrow wr b cap i xs zs) (hi : i < zs.length) (h0 : 0 < zs[i]) (hw : WB w2 b cap (zs.set i (zs[i] - 1))) : NatAt w2 (some ⟨b, 0, none⟩) (zs.set i (zs[i] - 1)) ∧ wval (zs.set i (zs[i] - 1)) = wval xs - 1 := by
  obtain ⟨_, h2, h3, h4⟩ := h
  have hz := h3 zs[i] (List.getElem_mem _)
  refine ⟨NatAt.of_wb hw (set_words h3 i _ (by omega)), ?_⟩
  have := wval_set zs i (zs[i] - 1) hi
  have he : 4294967296 ^ i * zs[i] = 4294967296 ^ i * (zs[i] - 1) + 4294967296 ^ i := by
    rw [← Nat.mul_succ]
    congr 1
    omega
  omega

set_option maxRecDepth 100000 in
set_option maxHeartbeats 4000000 in
theorem minus_walk (p : Option Addr) (cp l : Nat) (xs : List Nat) (w : World) (h : NatAt w p xs) (hl : xs.length = l) (hl1 : l ≤ 10000) (hpos : 0 < wval xs) :
    Calls Tryd.prog 16 #[.slice p l cp] w (NEnd w (wval xs - 1) l) := by
  have h0 : 0 < l := by
    rcases Nat.eq_zero_or_pos l with rfl | h
    · obtain rfl : xs = [] := List.length_eq_zero_iff.1 hl
      simp [wval] at hpos
    · exact h
  obtain ⟨s, hp, hs, _⟩ := h.2 0 (by omega)
  subst hp
  have hx : ∀ i (h : i < xs.length), w.cell? ⟨s, i, none⟩ = some (wordV xs[i]) := fun i hi => by
    obtain ⟨g, hg, _, hc⟩ := h.2 i hi
    injection hg with hg
    injection hg with hg
    subst hg
    exact hc
  have k0 : Keeps (fun _ => False) w (w.alloc (.cells #[] 40)) := (Keeps.refl _ w).alloc _
  obtain ⟨g, cap, w1, hr, hg, hB, hcap, hgr⟩ := copy_words (w.alloc (.cells #[] 40)) w.heap.size cp s _ xs (own_empty w w.heap.size 40 1 (Nat.le_refl _)) (fun i hi => (k0.cell (p := ⟨s, i, none⟩) hs id).trans (hx i hi)) (by omega) (by omega) k0.size
  have hb1 : Below w.heap.size w w1 := (k0.below (Nat.le_refl _) (fun _ h => h.elim)).trans ((Keeps.of_grown hgr (S := fun k => w.heap.size ≤ k) (fun k hk => by injection hk with hk; rw [← hk]; exact Nat.le_refl _)).below k0.size (fun k hk => hk))
  have HH := Lib.hid (And.intro h (And.intro hl (And.intro hpos (And.intro hg (And.intro hB (And.intro hcap hb1))))))
  rw [hl] at hr
  have HR := Lib.hid hr
  clear h hx k0 hg hB hgr hb1 hpos hr hcap
  go_enter Tryd.func16, Tryd.ntmps16
  go_wp2_with (first | (at_builtin; refine wpList_app rfl _ _ 31 31 rfl _ _ _ rfl rfl HR.out ?_))
  go_loopw [10] (fun vi wr => ∃ (i : Nat) (zs : List Nat), vi = .int .i64 i ∧ i ≤ l ∧ Hid (Borrow wr g cap i xs zs ∧ Below w.heap.size w wr)) (fun vi _ => l - (intOf vi).toNat)
  case atStart => exact ⟨0, xs, rfl, Nat.zero_le _, Lib.hid ⟨⟨HH.out.2.2.2.2.1, rfl, HH.out.1.1, by simp⟩, HH.out.2.2.2.2.2.2⟩⟩
  case round =>
    obtain ⟨i, zs, rfl, hi, hM⟩ := hrel
    have hzl : zs.length = l := by rw [hM.out.1.2.1]; exact hl
    rcases Nat.eq_or_lt_of_le hi with rfl | hil
    · have h1 := wval_lt zs hM.out.1.2.2.1
      rw [hzl] at h1
      have h2 := hM.out.1.2.2.2
      have h3 := HH.out.2.2.1
      omega
    · have hiz : i < zs.length := by omega
      clear hi
      obtain ⟨z, hz⟩ : ∃ z, z = zs[i] := ⟨_, rfl⟩
      have hc : wr.cell? ⟨g, i, none⟩ = some (.int .u32 (z : Int)) := by rw [hz]; exact hM.out.1.1.cell i (by omega)
      have hf := hM.out.1.1.frozen i
      have hzb : z < 4294967296 := by rw [hz]; exact hM.out.1.2.2.1 _ (List.getElem_mem _)
      have hlc : i < cap := by have := HH.out.2.2.2.2.2.1; omega
      have hB2 : ∀ c, Below w.heap.size w (wr.setCell ⟨g, i, none⟩ (wordV c)) := fun c => hM.out.2.trans (((Keeps.refl (fun k => k = g) wr).set (p := ⟨g, i, none⟩) (.inl rfl) _).below hM.out.2.size (by rintro k rfl; exact HH.out.2.2.2.1))
      have HZ := Lib.hid (And.intro hz (And.intro hzl hB2))
      clear hz hB2
      rcases Nat.eq_zero_or_pos z with rfl | hz0
      · go_wp2_with fail
        have hb := hM.out.1.zero (by have := HZ.out.2.1; omega) HZ.out.1.symm (hM.out.1.1.turn i 4294967295 (by have := HZ.out.2.1; omega))
        exact ⟨⟨i + 1, _, by go_num, by omega, Lib.hid ⟨hb, HZ.out.2.2 4294967295⟩⟩, by simp [intOf]; omega⟩
      · have hne : (((z : Int) - 1) != 4294967295) = true := by simp; omega
        have hne2 : (((z : Int) - 1) == 4294967295) = false := by simp; omega
        go_wp2_with fail
        go_returns
        have hv : (Value.int .u32 ((z : Int) - 1)) = wordV (z - 1) := congrArg (Value.int .u32) (by omega)
        rw [hv]
        have hz := HZ.out.1
        subst hz
        have hd := hM.out.1.done hiz hz0 (hM.out.1.1.turn i _ hiz)
        have hlen : (zs.set i (zs[i] - 1)).length = l := by rw [List.length_set]; exact hzl
        refine ⟨some ⟨g, 0, none⟩, cap, zs.set i (zs[i] - 1), by rw [hlen]; rfl, ⟨hd.1, ?_⟩, hd.2, by rw [hlen]; exact Nat.le_refl _, HZ.out.2.2 _⟩
        rw [hlen, ← hl]
        exact HH.out.2.2.2.2.2.1
#print axioms minus_walk
end Go.Proofs.YtnfddblpenninaaDoor
