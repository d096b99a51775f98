/- Numbers compared: the walk. -/
import Derived.Test.YtnfddblpenninaaDoorFixD
namespace Go.Proofs.YtnfddblpenninaaDoor
open Go.RowKit

theorem below_drewN {B : Nat} {w w' : World} (h : Below B w w') (n : Nat) : Below B w (w'.drewN n) := ⟨h.os, h.tape, h.output, h.size, h.block⟩
set_option maxRecDepth 100000 in
set_option maxHeartbeats 4000000 in
theorem order_walk (p q : Option Addr) (cp cq n m : Nat) (xs ys : List Nat) (w : World) (hx : NatAt w p xs) (hy : NatAt w q ys) (hn : xs.length = n) (hm : ys.length = m) (hn1 : n ≤ 10000) (hm1 : m ≤ 10000) (hcp : n ≤ cp) (hcq : m ≤ cq) :
    Calls Tryd.prog 15 #[.slice p n cp, .slice q m cq] w fun e w' => e = .returned (.int .i64 (cmpN (wval xs) (wval ys))) ∧ Below w.heap.size w w' := by
  have HX := Lib.hid (And.intro hx hn)
  have HY := Lib.hid (And.intro hy hm)
  clear hx hy hn hm
  go_enter Tryd.func15, Tryd.ntmps15
  go_wp2_with fail
  go_loopw [0] (fun va wr => ∃ (k : Nat), va = .slice p k cp ∧ wr = w ∧ k ≤ n ∧ Hid (Strip xs k)) (fun va _ => match va with | .slice _ k _ => k | _ => 0)
  case atStart => exact ⟨n, rfl, rfl, Nat.le_refl _, Lib.hid (by rw [← HX.out.2]; exact Strip.start xs)⟩
  case round =>
    obtain ⟨k, rfl, rfl, hkn, hK⟩ := hrel
    obtain ⟨b, hb⟩ : ∃ b, b = more xs k := ⟨_, rfl⟩
    have HBb := Lib.hid hb
    clear hb
    go_upto_region 1 with fail
    go_cut [17] (fun t wc => t = .bool b ∧ wr = wc)
    case first =>
      rcases k with _ | k
      · go_wp2_with fail
        go_meet
        exact ⟨congrArg Value.bool (by rw [HBb.out]; rfl), rfl⟩
      · have hkl : k < xs.length := by rw [HX.out.2]; omega
        obtain ⟨g, hp, hg, hc⟩ := HX.out.1.2 k hkl
        obtain ⟨x, hxx⟩ : ∃ x, x = xs[k] := ⟨_, rfl⟩
        rw [← hxx] at hc
        replace hc : wr.cell? ⟨g, k, none⟩ = some (.int .u32 (x : Int)) := hc
        subst hp
        have HXX := Lib.hid hxx
        clear hxx
        go_wp2_with fail
        go_meet
        refine ⟨congrArg Value.bool ?_, rfl⟩
        rw [HBb.out, more, Nat.add_sub_cancel, List.getElem?_eq_getElem hkl, ← HXX.out]
        exact Bool.eq_iff_iff.2 (by simp)
    case rest =>
      obtain ⟨rfl, rfl⟩ := hcut
      cases b
      · have HT := Lib.hid (more_no HBb.out.symm hK.out)
        clear hK HBb
        obtain ⟨ka, hka⟩ : ∃ ka, ka = k := ⟨_, rfl⟩
        subst hka
        go_wp2_with fail
        go_loopw [1] (fun vb wr' => ∃ (k : Nat), vb = .slice q k cq ∧ wr' = wr ∧ k ≤ m ∧ Hid (Strip ys k)) (fun vb _ => match vb with | .slice _ k _ => k | _ => 0)
        case atStart => exact ⟨m, rfl, rfl, Nat.le_refl _, Lib.hid (by rw [← HY.out.2]; exact Strip.start ys)⟩
        case round =>
          obtain ⟨k, rfl, rfl, hkm, hK⟩ := hrel
          obtain ⟨b, hb⟩ : ∃ b, b = more ys k := ⟨_, rfl⟩
          have HBb := Lib.hid hb
          clear hb
          go_upto_region 3 with fail
          go_cut [34] (fun t wc => t = .bool b ∧ wr = wc)
          case first =>
            rcases k with _ | k
            · go_wp2_with fail
              go_meet
              exact ⟨congrArg Value.bool (by rw [HBb.out]; rfl), rfl⟩
            · have hkl : k < ys.length := by rw [HY.out.2]; omega
              obtain ⟨g, hp, hg, hc⟩ := HY.out.1.2 k hkl
              obtain ⟨x, hxx⟩ : ∃ x, x = ys[k] := ⟨_, rfl⟩
              rw [← hxx] at hc
              replace hc : wr.cell? ⟨g, k, none⟩ = some (.int .u32 (x : Int)) := hc
              subst hp
              have HXX := Lib.hid hxx
              clear hxx
              go_wp2_with fail
              go_meet
              refine ⟨congrArg Value.bool ?_, rfl⟩
              rw [HBb.out, more, Nat.add_sub_cancel, List.getElem?_eq_getElem hkl, ← HXX.out]
              exact Bool.eq_iff_iff.2 (by simp)
          case rest =>
            obtain ⟨rfl, rfl⟩ := hcut
            cases b
            · have HU := Lib.hid (more_no HBb.out.symm hK.out)
              clear hK HBb
              rcases Nat.lt_trichotomy ka k with hlt | heq | hgt
              · have hc := cmp_lt (trim_lt HX.out.1.1 HT.out HU.out hlt)
                have HC := Lib.hid hc
                clear hc
                have hne : ((ka : Int) == (k : Int)) = false := by simp; omega
                have hl2 : decide ((ka : Int) < (k : Int)) = true := by simp; omega
                go_wp2_with fail
                go_returns
                exact ⟨by rw [HC.out]; rfl, Below.refl _ _⟩
              · subst heq
                have hk1 := HT.out.1
                have hk2 := HU.out.1
                go_wp2_with fail
                obtain ⟨wo, hwo⟩ : ∃ wo, wo = wr := ⟨_, rfl⟩
                subst hwo
                go_loopw [5] (fun vi wz => ∃ (j : Nat) (v : Int), vi = .int .i64 v ∧ v = (j : Int) - 1 ∧ j ≤ ka ∧ Hid (Same xs ys ka j ∧ Below wo.heap.size wo wz)) (fun vi _ => (intOf vi + 1).toNat)
                case atStart => exact ⟨ka, _, rfl, rfl, Nat.le_refl _, Lib.hid ⟨fun j h1 h2 => by omega, Below.refl _ _⟩⟩
                case round =>
                  obtain ⟨j, v, rfl, hv, hj, hS⟩ := hrel
                  rcases j with _ | j
                  · obtain rfl : v = -1 := by omega
                    clear hv
                    have hsame := same_all hS.out.1
                    have hc : cmpN (wval xs) (wval ys) = 0 := cmp_eq (by rw [← HT.out.2.2, ← HU.out.2.2, hsame])
                    have HC := Lib.hid hc
                    clear hc hsame
                    go_wp2_with fail
                    go_returns
                    exact ⟨by rw [HC.out]; rfl, hS.out.2⟩
                  · obtain rfl : v = (j : Int) := by omega
                    clear hv
                    have hjx : j < xs.length := by omega
                    have hjy : j < ys.length := by omega
                    obtain ⟨g, hp, hg, hc⟩ := (HX.out.1.below hS.out.2).2 j hjx
                    obtain ⟨g2, hp2, hg2, hc2⟩ := (HY.out.1.below hS.out.2).2 j hjy
                    obtain ⟨x, hxx⟩ : ∃ x, x = xs[j] := ⟨_, rfl⟩
                    obtain ⟨y, hyy⟩ : ∃ y, y = ys[j] := ⟨_, rfl⟩
                    rw [← hxx] at hc
                    rw [← hyy] at hc2
                    replace hc : wr.cell? ⟨g, j, none⟩ = some (.int .u32 (x : Int)) := hc
                    replace hc2 : wr.cell? ⟨g2, j, none⟩ = some (.int .u32 (y : Int)) := hc2
                    subst hp hp2
                    have HXX := Lib.hid (And.intro hxx hyy)
                    clear hxx hyy
                    by_cases he : x = y
                    · subst he
                      go_wp2_with fail
                      go_quiet (fail)
                      go_wp2_with fail
                      exact ⟨⟨j, (j : Int) - 1, rfl, rfl, by omega, Lib.hid ⟨hS.out.1.down hjx hjy (by rw [← HXX.out.1, ← HXX.out.2]), below_drewN hS.out.2 _⟩⟩, by simp [intOf]⟩
                    · have hne : ((x : Int) == (y : Int)) = false := by simp; omega
                      have hne2 : ((x : Int) != (y : Int)) = true := by simp; omega
                      by_cases hlt : x < y
                      · have hc : cmpN (wval xs) (wval ys) = -1 := cmp_lt (by
                          have := lt_at HX.out.1.1 hk1 hk2 j (by omega) hS.out.1 (by rw [← HXX.out.1, ← HXX.out.2]; exact hlt)
                          rwa [HT.out.2.2, HU.out.2.2] at this)
                        have HC := Lib.hid hc
                        have hl2 : decide ((x : Int) < (y : Int)) = true := by simp; omega
                        have hl3 : decide (x < y) = true := by simp; omega
                        clear hc he hlt
                        go_wp2_with fail
                        go_quiet (fail)
                        go_wp2_with fail
                        go_quiet (fail)
                        go_wp2_with fail
                        go_returns
                        exact ⟨by rw [HC.out]; rfl, below_drewN (below_drewN hS.out.2 _) _⟩
                      · have hc : cmpN (wval xs) (wval ys) = 1 := cmp_gt (by
                          have := lt_at HY.out.1.1 hk2 hk1 j (by omega) (fun i h1 h2 => (hS.out.1 i h1 h2).symm) (by rw [← HXX.out.1, ← HXX.out.2]; omega)
                          rwa [HT.out.2.2, HU.out.2.2] at this)
                        have HC := Lib.hid hc
                        have hl2 : decide ((x : Int) < (y : Int)) = false := by simp; omega
                        have hl3 : decide (x < y) = false := by simp; omega
                        clear hc he hlt
                        go_wp2_with fail
                        go_quiet (fail)
                        go_wp2_with fail
                        go_quiet (fail)
                        go_wp2_with fail
                        go_returns
                        exact ⟨by rw [HC.out]; rfl, below_drewN (below_drewN hS.out.2 _) _⟩
              · have hc := cmp_gt (trim_lt HY.out.1.1 HU.out HT.out hgt)
                have HC := Lib.hid hc
                clear hc
                have hne : ((ka : Int) == (k : Int)) = false := by simp; omega
                have hl2 : decide ((ka : Int) < (k : Int)) = false := by simp; omega
                go_wp2_with fail
                go_returns
                exact ⟨by rw [HC.out]; rfl, Below.refl _ _⟩
            · obtain ⟨j, rfl, hj⟩ := more_yes HBb.out.symm hK.out
              have HJ := Lib.hid hj
              clear hj HBb
              go_wp2_with fail
              exact ⟨⟨j, rfl, trivial, by omega, HJ⟩, Nat.lt_succ_self j⟩
      · obtain ⟨j, rfl, hj⟩ := more_yes HBb.out.symm hK.out
        have HJ := Lib.hid hj
        clear hj HBb
        go_wp2_with fail
        exact ⟨⟨j, rfl, trivial, by omega, HJ⟩, Nat.lt_succ_self j⟩
#print axioms order_walk
end Go.Proofs.YtnfddblpenninaaDoor
