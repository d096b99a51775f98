/- A float's digits written out without an exponent: the walk. -/
import Derived.Test.YtnfddblpenninaaDoorFixN
namespace Go.Proofs.YtnfddblpenninaaDoor
open Go.RowKit

/-- The digits that a value holds. -/
def Digs (w : World) (sv : Value) (ds : List UInt8) : Prop :=
  ∃ g len cap, sv = .slice (some ⟨g, 0, none⟩) len cap ∧ g < w.heap.size ∧ ds.length ≤ len ∧ len ≤ cap ∧ ∀ i (h : i < ds.length), w.cell? ⟨g, i, none⟩ = some (byteV ds[i])
theorem Digs.below {w w' : World} {sv : Value} {ds : List UInt8} (h : Digs w sv ds) (k : Below w.heap.size w w') : Digs w' sv ds := by
  obtain ⟨g, len, cap, h1, h2, h3, h4, h5⟩ := h
  exact ⟨g, len, cap, h1, Nat.lt_of_lt_of_le h2 k.size, h3, h4, fun i hi => (World.cell?_of_block (a := ⟨g, i, none⟩) (k.block g h2)).trans (h5 i hi)⟩
def sgnF (neg : Bool) : List UInt8 := if neg then [45] else []
def intF (ds : List UInt8) (dp : Int) : List UInt8 := if 0 < dp then ds.take dp.toNat ++ List.replicate (dp.toNat - ds.length) 48 else [48]
def leadF (dp : Int) (prec : Nat) : Nat := min prec (-dp).toNat
def fracT (ds : List UInt8) (dp : Int) (prec : Nat) : List UInt8 :=
  if 0 < prec then 46 :: (List.replicate (leadF dp prec) 48 ++ ((ds.drop dp.toNat).take (prec - leadF dp prec) ++ List.replicate (prec - leadF dp prec - (ds.length - dp.toNat)) 48)) else []
/-- A float's text without an exponent. -/
def textF (neg : Bool) (ds : List UInt8) (dp : Int) (prec : Nat) : List UInt8 := sgnF neg ++ intF ds dp ++ fracT ds dp prec
/-- A text is handed back. -/
def TextEnd (w : World) (l : List UInt8) (e : Ending) (w' : World) : Prop := ∃ v, e = .returned v ∧ Out w' w.heap.size v l ∧ Below w.heap.size w w'

set_option maxRecDepth 1000000 in
set_option maxHeartbeats 16000000 in
theorem efg_walk (neg : Bool) (sv : Value) (ds : List UInt8) (nd : Nat) (hnd : ds.length = nd) (dp : Int) (prec : Nat) (sh : Bool) (w : World) (hS : nd = 0 ∨ Digs w sv ds) (h0 : 0 < dp → 0 < nd)
    (hnd1 : nd ≤ 1000) (hp1 : prec ≤ 1000) (hd1 : -1000 ≤ dp) (hd2 : dp ≤ 1000) :
    Calls Tryd.prog 57 #[.slice none 0 0, .bool neg, sv, .int .i64 dp, .int .i64 (nd : Int), .int .i64 (prec : Int), .int .u8 102, .bool sh] w (TextEnd w (textF neg ds dp prec)) := by
  have HS := Lib.hid (And.intro hS (And.intro hnd h0))
  clear hS hnd h0
  go_enter Tryd.func57, Tryd.ntmps57
  go_upto_if 178 with fail
  go_cut [0] (fun v wc => Out wc w.heap.size v (sgnF neg) ∧ Below w.heap.size w wc)
  case first =>
    have hO := Out.nil w w.heap.size
    have HO := Lib.hid hO
    clear hO
    cases neg
    · go_wp2_with fail
      go_meet
      exact ⟨HO.out, Below.refl _ _⟩
    · go_wp2_with (first | (at_builtin; refine wpList_put (base := w.heap.size) rfl _ _ rfl rfl _ [] 45 ⟨w.heap.size, 0, none⟩ rfl rfl (HO.out.alloc _) (by simp) (by simp) (new_byte w _ _ rfl) ?_; intro v2 w2 hO2 hB2; have H2 := Lib.hid (And.intro hO2 hB2); clear hO2 hB2))
      go_meet
      exact ⟨H2.out.1, ((Below.refl w.heap.size w).alloc (Nat.le_refl _) _).trans H2.out.2⟩
  case rest =>
    obtain ⟨wA, hwA⟩ : ∃ wA, wA = wc := ⟨_, rfl⟩
    rw [← hwA] at hcut ⊢
    clear hwA
    have HA := Lib.hid hcut
    clear hcut
    go_upto_if 183 with fail
    go_cut [0] (fun v wc => Out wc w.heap.size v (sgnF neg ++ intF ds dp) ∧ Below w.heap.size w wc)
    case first => as_aux_lemma =>
      rcases Int.lt_or_le 0 dp with hdp | hdp
      · obtain ⟨d, rfl⟩ := Int.eq_ofNat_of_zero_le (Int.le_of_lt hdp)
        have hn0 := HS.out.2.2 hdp
        have hD : Digs w sv ds := by
          rcases HS.out.1 with h | h
          · omega
          · exact h
        obtain ⟨g, len, cap, rfl, hg, hlen, hcap, hcell⟩ := hD
        have hlen2 : nd ≤ len := by have := HS.out.2.1; omega
        have HC := Lib.hid (And.intro hg hcell)
        have hd0 : 0 < d := by omega
        clear hcell hg hlen
        obtain ⟨M, hM⟩ : ∃ M, M = min nd d := ⟨_, rfl⟩
        have hM1 : M ≤ nd := by omega
        have hM2 : M ≤ d := by omega
        have hM0 : 0 < M := by omega
        have HM := Lib.hid hM
        clear hM
        go_upto_region 56 with fail
        go_cut [23] (fun q wz => q = .int .i64 (M : Int) ∧ wz = wA)
        case first =>
          by_cases hdn : d < nd
          all_goals
            go_wp2_with fail
            go_meet
            exact ⟨congrArg (Value.int .i64) (by have := HM.out; omega), rfl⟩
        case rest =>
          obtain ⟨rfl, rfl⟩ := hcut
          go_wp2_with fail
          go_loopw [0, 191] (fun v vi wr => ∃ i : Nat, vi = .int .i64 i ∧ i ≤ M ∧ Hid (Out wr w.heap.size v (sgnF neg ++ ds.take i) ∧ Below w.heap.size w wr)) (fun _ vi _ => M - (intOf vi).toNat)
          case atStart => exact ⟨0, rfl, Nat.zero_le _, Lib.hid (by rw [List.take_zero, List.append_nil]; exact HA.out)⟩
          case round =>
            obtain ⟨i, rfl, hi, hM⟩ := hrel
            have hi3 : i ≤ 1000 := by omega
            have hsl : (sgnF neg).length ≤ 1 := by unfold sgnF; split <;> simp
            by_cases hiM : i < M
            · have hil : i < ds.length := by have := HS.out.2.1; omega
              have hc : wr.cell? ⟨g, i, none⟩ = some (byteV ds[i]) := (World.cell?_of_block (a := ⟨g, i, none⟩) (hM.out.2.block g HC.out.1)).trans (HC.out.2 i hil)
              obtain ⟨x, hx⟩ : ∃ x, x = ds[i] := ⟨_, rfl⟩
              rw [← hx] at hc
              replace hc : wr.cell? ⟨g, i, none⟩ = some (.int .u8 (x.toNat : Int)) := hc
              have HX := Lib.hid hx
              clear hx hi
              go_wp2_with (first | (at_builtin; refine wpList_put (base := w.heap.size) rfl _ _ rfl rfl _ (sgnF neg ++ ds.take i) x ⟨wr.heap.size, 0, none⟩ rfl rfl (hM.out.1.alloc _) (by have := hM.out.2.size; simp; omega) (by rw [List.length_append, List.length_take]; omega) (new_byte wr _ _ rfl) ?_; intro v2 w2 hO2 hB2; have H2 := Lib.hid (And.intro hO2 (((hM.out.2).alloc hM.out.2.size _).trans hB2)); clear hO2 hB2))
              refine ⟨⟨i + 1, by go_num, by omega, Lib.hid ⟨?_, H2.out.2⟩⟩, by simp [intOf]; omega⟩
              rw [List.take_succ_eq_append_getElem hil, ← HX.out, ← List.append_assoc]
              exact H2.out.1
            · obtain rfl : i = M := by omega
              clear hi hiM
              go_wp2_with fail
              have hML := HM.out
              have HML := Lib.hid (And.intro hML hM.out)
              clear hML hM
              as_aux_lemma =>
                go_loopw [0, 203] (fun v vi wr => ∃ j : Nat, vi = .int .i64 j ∧ j ≤ d - i ∧ Hid (Out wr w.heap.size v (sgnF neg ++ (ds.take i ++ List.replicate j 48)) ∧ Below w.heap.size w wr)) (fun _ vi _ => d - i - (intOf vi).toNat)
                case atStart => exact ⟨0, rfl, Nat.zero_le _, Lib.hid (by rw [List.replicate_zero, List.append_nil]; exact HML.out.2)⟩
                case round =>
                  obtain ⟨j, rfl, hj, hM⟩ := hrel
                  have hj3 : j ≤ 1000 := by omega
                  by_cases hjd : j < d - i
                  · have hq : decide ((j : Int) < (d : Int) - (i : Int)) = true := by simp; omega
                    clear hj
                    go_wp2_with (first | (at_builtin; refine wpList_put (base := w.heap.size) rfl _ _ rfl rfl _ (sgnF neg ++ (ds.take i ++ List.replicate j 48)) 48 ⟨wr.heap.size, 0, none⟩ rfl rfl (hM.out.1.alloc _) (by have := hM.out.2.size; simp; omega) (by rw [List.length_append, List.length_append, List.length_take, List.length_replicate]; omega) (new_byte wr _ _ rfl) ?_; intro v2 w2 hO2 hB2; have H2 := Lib.hid (And.intro hO2 (((hM.out.2).alloc hM.out.2.size _).trans hB2)); clear hO2 hB2))
                    refine ⟨⟨j + 1, by go_num, by omega, Lib.hid ⟨?_, H2.out.2⟩⟩, by simp [intOf]; omega⟩
                    rw [List.replicate_succ', ← List.append_assoc, ← List.append_assoc]
                    rw [← List.append_assoc] at H2
                    exact H2.out.1
                  · have hq : decide ((j : Int) < (d : Int) - (i : Int)) = false := by simp; omega
                    have hjj : j = d - i := by omega
                    have HJ := Lib.hid hjj
                    clear hj hjd hjj
                    go_wp2_with fail
                    go_meet
                    have hint : intF ds (d : Int) = ds.take i ++ List.replicate j 48 := by
                      have h1 := HML.out.1
                      have h2 := HJ.out
                      have h3 := HS.out.2.1
                      have e1 : ds.take d = ds.take i := List.take_eq_take_iff.2 (by omega)
                      have e2 : d - ds.length = j := by omega
                      rw [intF, if_pos hdp, Int.toNat_natCast, e1, e2]
                    rw [hint]
                    exact hM.out
      · go_wp2_with (first | (at_builtin; refine wpList_put (base := w.heap.size) rfl _ _ rfl rfl _ (sgnF neg) 48 ⟨wA.heap.size, 0, none⟩ rfl rfl (HA.out.1.alloc _) (by have := HA.out.2.size; simp; omega) (by unfold sgnF; split <;> simp) (new_byte wA _ _ rfl) ?_; intro v2 w2 hO2 hB2; have H2 := Lib.hid (And.intro hO2 (((HA.out.2).alloc HA.out.2.size _).trans hB2)); clear hO2 hB2))
        go_meet
        rw [intF, if_neg (by omega)]
        exact H2.out
    case rest =>
      obtain ⟨wB, hwB⟩ : ∃ wB, wB = wc := ⟨_, rfl⟩
      rw [← hwB] at hcut ⊢
      clear hwB
      obtain ⟨L, hL⟩ : ∃ L, L = sgnF neg ++ intF ds dp := ⟨_, rfl⟩
      rw [← hL] at hcut
      have hLl : L.length ≤ 3001 := by
        have h3 := HS.out.2.1
        rw [hL, List.length_append]
        have h1 : (sgnF neg).length ≤ 1 := by unfold sgnF; split <;> simp
        have h2 : (intF ds dp).length ≤ 2000 := by
          unfold intF
          split
          · rw [List.length_append, List.length_take, List.length_replicate]; omega
          · simp
        omega
      have HL := Lib.hid hL
      have HB := Lib.hid hcut
      clear hcut hL HA
      rcases Nat.eq_zero_or_pos prec with rfl | hpp
      · go_wp2_with fail
        go_returns
        refine ⟨_, rfl, ?_, HB.out.2⟩
        rw [textF, fracT, if_neg (by omega), List.append_nil, ← HL.out]
        exact HB.out.1
      · go_upto_region 69 with (first | (at_builtin; refine wpList_put (base := w.heap.size) rfl _ _ rfl rfl _ L 46 ⟨wB.heap.size, 0, none⟩ rfl rfl (HB.out.1.alloc _) (by have := HB.out.2.size; simp; omega) (by omega) (new_byte wB _ _ rfl) ?_; intro v2 w2 hO2 hB2; have H2 := Lib.hid (And.intro hO2 (((HB.out.2).alloc HB.out.2.size _).trans hB2)); clear hO2 hB2))
        obtain ⟨z, hz⟩ : ∃ z, z = leadF dp prec := ⟨_, rfl⟩
        obtain ⟨k, hk⟩ : ∃ k, k = dp.toNat := ⟨_, rfl⟩
        obtain ⟨M, hM⟩ : ∃ M, M = min (prec - z) (nd - k) := ⟨_, rfl⟩
        obtain ⟨T, hT⟩ : ∃ T, T = prec - z - M := ⟨_, rfl⟩
        have hz' : z = min prec (-dp).toNat := hz
        have hz1 : z ≤ prec := by omega
        have hM1 : M ≤ nd := by omega
        have hT1 : T ≤ prec := by omega
        have HZ := Lib.hid (And.intro hz' (And.intro hk (And.intro hM hT)))
        clear hz hz' hk hM hT
        go_cut [26] (fun q wz => q = .int .i64 (z : Int) ∧ wz = w2)
        case first =>
          go_wp2_with fail
          go_meet
          exact ⟨congrArg (Value.int .i64) (by have := HZ.out; omega), rfl⟩
        case rest =>
          obtain ⟨rfl, hwc⟩ := hcut
          obtain ⟨wC, hwC⟩ : ∃ wC, wC = wc := ⟨_, rfl⟩
          rw [← hwC] at hwc ⊢
          subst hwc
          clear hwC
          obtain ⟨L2, hL2⟩ : ∃ L2, L2 = L ++ [46] := ⟨_, rfl⟩
          have hL2l : L2.length ≤ 3002 := by rw [hL2, List.length_append]; simp; omega
          have HC := Lib.hid (And.intro (hL2 ▸ H2.out.1) H2.out.2)
          have HL2 := Lib.hid hL2
          clear hL2 H2 HB
          go_upto_region 71 with fail
          go_cut [28] (fun q wz => q = .int .i64 (M : Int) ∧ wz = wC)
          case first =>
            go_wp2_with fail
            go_meet
            exact ⟨congrArg (Value.int .i64) (by have := HZ.out; omega), rfl⟩
          case rest =>
            obtain ⟨rfl, hwc⟩ := hcut
            obtain ⟨wD, hwD⟩ : ∃ wD, wD = wc := ⟨_, rfl⟩
            rw [← hwD] at hwc ⊢
            subst hwc
            clear hwD
            go_upto_region 72 with fail
            go_cut [29] (fun q wz => q = .int .i64 (T : Int) ∧ wz = wD)
            case first =>
              go_wp2_with fail
              go_meet
              exact ⟨congrArg (Value.int .i64) (by have := HZ.out; omega), rfl⟩
            case rest =>
              obtain ⟨rfl, hwc⟩ := hcut
              subst hwc
              go_wp2_with fail
              as_aux_lemma =>
                go_loopw [0, 240] (fun v vi wr => ∃ i : Nat, vi = .int .i64 i ∧ i ≤ z ∧ Hid (Out wr w.heap.size v (L2 ++ List.replicate i 48) ∧ Below w.heap.size w wr)) (fun _ vi _ => z - (intOf vi).toNat)
                case atStart => exact ⟨0, rfl, Nat.zero_le _, Lib.hid (by rw [List.replicate_zero, List.append_nil]; exact HC.out)⟩
                case round =>
                  obtain ⟨i, rfl, hi, hM⟩ := hrel
                  have hi3 : i ≤ 1000 := by omega
                  by_cases hiz : i < z
                  · clear hi
                    go_wp2_with (first | (at_builtin; refine wpList_put (base := w.heap.size) rfl _ _ rfl rfl _ (L2 ++ List.replicate i 48) 48 ⟨wr.heap.size, 0, none⟩ rfl rfl (hM.out.1.alloc _) (by have := hM.out.2.size; simp; omega) (by rw [List.length_append, List.length_replicate]; omega) (new_byte wr _ _ rfl) ?_; intro v2 w2 hO2 hB2; have H2 := Lib.hid (And.intro hO2 (((hM.out.2).alloc hM.out.2.size _).trans hB2)); clear hO2 hB2))
                    refine ⟨⟨i + 1, by go_num, by omega, Lib.hid ⟨?_, H2.out.2⟩⟩, by simp [intOf]; omega⟩
                    rw [List.replicate_succ', ← List.append_assoc]
                    exact H2.out.1
                  · obtain rfl : i = z := by omega
                    clear hi hiz
                    go_wp2_with fail
                    have HM := Lib.hid hM
                    clear hM
                    as_aux_lemma =>
                      go_loopw [0, 247] (fun v vj wr => ∃ j : Nat, vj = .int .i64 j ∧ j ≤ M ∧ Hid (Out wr w.heap.size v (L2 ++ (List.replicate i 48 ++ (ds.drop k).take j)) ∧ Below w.heap.size w wr)) (fun _ vj _ => M - (intOf vj).toNat)
                      case atStart => exact ⟨0, rfl, Nat.zero_le _, Lib.hid (by rw [List.take_zero, List.append_nil]; exact HM.out.out)⟩
                      case round =>
                        obtain ⟨j, rfl, hj, hM⟩ := hrel
                        have hj3 : j ≤ 1000 := by omega
                        by_cases hjm : j < M
                        · have hz4 := HZ.out
                          have hdk : dp + (i : Int) + (j : Int) = (k : Int) + (j : Int) := by omega
                          have hkj : k + j < nd := by omega
                          have hD : Digs w sv ds := by
                            rcases HS.out.1 with h | h
                            · omega
                            · exact h
                          obtain ⟨g, len, cap, rfl, hg, hlen, hcap, hcell⟩ := hD
                          have hdl := HS.out.2.1
                          have hkl : k + j < len := by omega
                          have hkd : k + j < ds.length := by omega
                          have hc : wr.cell? ⟨g, k + j, none⟩ = some (byteV ds[k + j]) := (World.cell?_of_block (a := ⟨g, k + j, none⟩) (hM.out.2.block g hg)).trans (hcell _ hkd)
                          have htk : (ds.drop k).take (j + 1) = (ds.drop k).take j ++ [ds[k + j]] := by
                            rw [List.take_succ_eq_append_getElem (by rw [List.length_drop]; omega), List.getElem_drop]
                          obtain ⟨x, hx⟩ : ∃ x, x = ds[k + j] := ⟨_, rfl⟩
                          rw [← hx] at hc htk
                          replace hc : wr.cell? ⟨g, k + j, none⟩ = some (.int .u8 (x.toNat : Int)) := hc
                          have HT := Lib.hid htk
                          clear hj hz4 hcell hx hdl htk hlen hkd
                          go_wp2_with (first | (at_builtin; refine wpList_put (base := w.heap.size) rfl _ _ rfl rfl _ (L2 ++ (List.replicate i 48 ++ (ds.drop k).take j)) x ⟨wr.heap.size, 0, none⟩ rfl rfl (hM.out.1.alloc _) (by have := hM.out.2.size; simp; omega) (by rw [List.length_append, List.length_append, List.length_replicate, List.length_take]; omega) (new_byte wr _ _ rfl) ?_; intro v2 w2 hO2 hB2; have H2 := Lib.hid (And.intro hO2 (((hM.out.2).alloc hM.out.2.size _).trans hB2)); clear hO2 hB2))
                          refine ⟨⟨j + 1, by go_num, by omega, Lib.hid ⟨?_, H2.out.2⟩⟩, by simp [intOf]; omega⟩
                          rw [HT.out, ← List.append_assoc (List.replicate i 48), ← List.append_assoc L2]
                          exact H2.out.1
                        · obtain rfl : j = M := by omega
                          clear hj hjm
                          go_wp2_with fail
                          obtain ⟨L3, hL3⟩ : ∃ L3, L3 = L2 ++ (List.replicate i 48 ++ (ds.drop k).take j) := ⟨_, rfl⟩
                          have hL3l : L3.length ≤ 8000 := by rw [hL3, List.length_append, List.length_append, List.length_replicate, List.length_take]; omega
                          have HF := Lib.hid (hL3 ▸ hM.out)
                          have HL3 := Lib.hid hL3
                          clear hM hL3 HM
                          as_aux_lemma =>
                            go_loopw [0, 261] (fun v vt wr => ∃ t : Nat, vt = .int .i64 t ∧ t ≤ T ∧ Hid (Out wr w.heap.size v (L3 ++ List.replicate t 48) ∧ Below w.heap.size w wr)) (fun _ vt _ => T - (intOf vt).toNat)
                            case atStart => exact ⟨0, rfl, Nat.zero_le _, Lib.hid (by rw [List.replicate_zero, List.append_nil]; exact HF.out)⟩
                            case round =>
                              obtain ⟨t, rfl, ht, hM⟩ := hrel
                              have ht3 : t ≤ 1000 := by omega
                              by_cases htz : t < T
                              · clear ht
                                go_wp2_with (first | (at_builtin; refine wpList_put (base := w.heap.size) rfl _ _ rfl rfl _ (L3 ++ List.replicate t 48) 48 ⟨wr.heap.size, 0, none⟩ rfl rfl (hM.out.1.alloc _) (by have := hM.out.2.size; simp; omega) (by rw [List.length_append, List.length_replicate]; omega) (new_byte wr _ _ rfl) ?_; intro v2 w2 hO2 hB2; have H2 := Lib.hid (And.intro hO2 (((hM.out.2).alloc hM.out.2.size _).trans hB2)); clear hO2 hB2))
                                refine ⟨⟨t + 1, by go_num, by omega, Lib.hid ⟨?_, H2.out.2⟩⟩, by simp [intOf]; omega⟩
                                rw [List.replicate_succ', ← List.append_assoc]
                                exact H2.out.1
                              · obtain rfl : t = T := by omega
                                clear ht htz
                                go_wp2_with fail
                                go_returns
                                refine ⟨_, rfl, ?_, hM.out.2⟩
                                have hz4 := HZ.out
                                have hdl := HS.out.2.1
                                have e1 : leadF dp prec = i := hz4.1.symm
                                have e2 : (ds.drop k).take (prec - i) = (ds.drop k).take j := List.take_eq_take_iff.2 (by rw [List.length_drop]; omega)
                                have e3 : prec - i - (ds.length - k) = t := by omega
                                have hO := hM.out.1
                                rw [HL3.out, HL2.out, HL.out] at hO
                                rw [textF, fracT, if_pos hpp, e1, ← hz4.2.1, e2, e3]
                                simpa [List.append_assoc] using hO
end Go.Proofs.YtnfddblpenninaaDoor
