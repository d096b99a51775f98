/- The reference's LLaid: the walk. -/
import Derived.Test.YtggebombeflmhaaDoorRefB
import Derived.BigQuiet
namespace Go.Proofs.YtggebombeflmhaaDoor
open Go.RowKit

/-- The fraction's source: nine zeros, or what stands behind the point. -/
def FracSrc (S1 : ByteArray) (F : Nat) : Prop :=
  (S1.size ≤ 21 ∧ d9 F = zeros 9) ∨ ∃ (x : ByteArray) (m : Nat), 21 < S1.size ∧ S1.size ≤ 60 ∧ m + 1 = S1.size ∧ (∀ W, (Instr.slice 9 (.string S1) (some (.int .i64 20)) (some (.int .i64 m)) none).run Tryd.prog W = .ok (.string x) W) ∧ x.size ≤ 9 ∧ Frac F x.data.toList

theorem out_of {t : ByteArray} {l : List UInt8} (h : t.data.toList = l) : Ending.returned (.string t) = .returned (.string ⟨l.toArray⟩) := by rw [str_of h]
/-- The eleven layouts out of their parts. -/
def laidL (wk mo sh yr y2 day hr mi se t10 fr h12 : List UInt8) (off hh : Int) (z1 z2 : List UInt8) : Nat → List UInt8
  | 0 => wk ++ (32 :: (mo ++ (32 :: (sh ++ (32 :: (hr ++ (58 :: (mi ++ (58 :: (se ++ (32 :: yr)))))))))))
  | 1 => wk ++ (32 :: (mo ++ (32 :: (sh ++ (32 :: (hr ++ (58 :: (mi ++ (58 :: se)))))))))
  | 2 => day ++ (32 :: (mo ++ (32 :: (y2 ++ (32 :: (hr ++ (58 :: (mi ++ (32 :: ((if off < 0 then 45 else 43) :: (z1 ++ z2)))))))))))
  | 3 => wk ++ (44 :: (32 :: (day ++ (32 :: (mo ++ (32 :: (yr ++ (32 :: (hr ++ (58 :: (mi ++ (58 :: (se ++ (32 :: ((if off < 0 then 45 else 43) :: (z1 ++ z2))))))))))))))))
  | 4 => h12 ++ (58 :: (mi ++ (if hh < 12 then [65, 77] else [80, 77])))
  | 5 => mo ++ (32 :: (sh ++ (32 :: (hr ++ (58 :: (mi ++ (58 :: se)))))))
  | 6 => mo ++ (32 :: (sh ++ (32 :: (hr ++ (58 :: (mi ++ (58 :: (se ++ (46 :: fr.take 3)))))))))
  | 7 => mo ++ (32 :: (sh ++ (32 :: (hr ++ (58 :: (mi ++ (58 :: (se ++ (46 :: fr.take 6)))))))))
  | 8 => t10 ++ (32 :: (hr ++ (58 :: (mi ++ (58 :: se)))))
  | 9 => t10
  | _ => hr ++ (58 :: (mi ++ (58 :: se)))
set_option linter.unusedSimpArgs false in
set_option linter.unusedVariables false in
set_option maxRecDepth 100000 in
set_option maxHeartbeats 4000000 in
theorem laid_walk (ns off S tn S2 Dd q b0 b1 c0 g0 g1 hh hq ab za zb : Int) (F j mI k : Nat) (S1 T ty tm td th ti ts t10 ty2 td1 wkS moS z1 z2 h12 : ByteArray) (w0 w : World) (hB : Below w0.heap.size w0 w)
    (bS0 : -4700000000 ≤ S) (bS1 : S ≤ 4700000000) (bo0 : -60000 ≤ off) (bo1 : off ≤ 60000) (bD0 : -100000 ≤ Dd) (bD1 : Dd ≤ 100000) (bq0 : -100000 ≤ q) (bq1 : q ≤ 100000) (bj : j < 7) (bmI : mI < 12)
    (b00 : 48 ≤ b0) (b01 : b0 ≤ 57) (b10 : 48 ≤ b1) (b11 : b1 ≤ 57) (g00 : 48 ≤ g0) (g01 : g0 ≤ 57) (g10 : 48 ≤ g1) (g11 : g1 ≤ 57) (bh0 : 0 ≤ hh) (bh1 : hh < 24) (ba0 : 0 ≤ ab) (ba1 : ab ≤ 60000) (hF : F < 1000000000)
    (e1 : S * 1000000000 + off * 1000000000 = tn) (e2 : S + off = S2) (e3 : Dd - 7 * q = j) (e4 : (b0 - 48) * 10 + (b1 - 48) - 1 = mI) (e5 : ab / 3600 = za) (e6 : ab / 60 % 60 = zb) (e7 : (hh + 11) % 12 + 1 = hq) (e8 : (g0 - 48) * 10 + (g1 - 48) = hh)
    (G1 : Hid (∀ W, Below w0.heap.size w0 W → Calls Tryd.prog 10 #[.int .i64 ns, .int .i64 0, .bool true] W fun e w' => e = .returned (.string S1) ∧ Below w0.heap.size w0 w'))
    (G2 : Hid (∀ W, Calls Tryd.prog 11 #[.int .i64 ns, .int .i64 1000000000] W fun e w' => e = .returned (.int .i64 S) ∧ W = w'))
    (G3 : Hid (∀ W, Below w0.heap.size w0 W → Calls Tryd.prog 10 #[.int .i64 tn, .int .i64 0, .bool false] W fun e w' => e = .returned (.string T) ∧ Below w0.heap.size w0 w'))
    (G4 : Hid (∀ W, Calls Tryd.prog 11 #[.int .i64 S2, .int .i64 86400] W fun e w' => e = .returned (.int .i64 Dd) ∧ W = w'))
    (G5 : Hid (∀ W, Calls Tryd.prog 11 #[.int .i64 Dd, .int .i64 7] W fun e w' => e = .returned (.int .i64 q) ∧ W = w'))
    (G6 : Hid (∀ W, Below w0.heap.size w0 W → Calls Tryd.prog 12 #[.int .i64 za, .int .i64 2] W fun e w' => e = .returned (.string z1) ∧ Below w0.heap.size w0 w'))
    (G7 : Hid (∀ W, Below w0.heap.size w0 W → Calls Tryd.prog 12 #[.int .i64 zb, .int .i64 2] W fun e w' => e = .returned (.string z2) ∧ Below w0.heap.size w0 w'))
    (G8 : Hid (∀ W, Below w0.heap.size w0 W → Calls Tryd.prog 13 #[.int .u64 hq] W fun e w' => e = .returned (.string h12) ∧ Below w0.heap.size w0 w'))
    (hs1 : S1.size ≤ 60) (HFS : Hid (FracSrc S1 F))
    (sy : ∀ W, (Instr.slice 9 (.string T) none (some (.int .i64 4)) none).run Tryd.prog W = .ok (.string ty) W)
    (sm : ∀ W, (Instr.slice 9 (.string T) (some (.int .i64 5)) (some (.int .i64 7)) none).run Tryd.prog W = .ok (.string tm) W)
    (sd : ∀ W, (Instr.slice 9 (.string T) (some (.int .i64 8)) (some (.int .i64 10)) none).run Tryd.prog W = .ok (.string td) W)
    (sh : ∀ W, (Instr.slice 9 (.string T) (some (.int .i64 11)) (some (.int .i64 13)) none).run Tryd.prog W = .ok (.string th) W)
    (si : ∀ W, (Instr.slice 9 (.string T) (some (.int .i64 14)) (some (.int .i64 16)) none).run Tryd.prog W = .ok (.string ti) W)
    (ss : ∀ W, (Instr.slice 9 (.string T) (some (.int .i64 17)) (some (.int .i64 19)) none).run Tryd.prog W = .ok (.string ts) W)
    (s10 : ∀ W, (Instr.slice 9 (.string T) none (some (.int .i64 10)) none).run Tryd.prog W = .ok (.string t10) W)
    (sy2 : ∀ W, (Instr.slice 9 (.string ty) (some (.int .i64 2)) none none).run Tryd.prog W = .ok (.string ty2) W)
    (sd1 : ∀ W, (Instr.slice 9 (.string td) (some (.int .i64 1)) none none).run Tryd.prog W = .ok (.string td1) W)
    (im0 : ∀ W, (Instr.index 9 (.string tm) (.int .i64 0)).run Tryd.prog W = .ok (.int .u8 b0) W) (im1 : ∀ W, (Instr.index 9 (.string tm) (.int .i64 1)).run Tryd.prog W = .ok (.int .u8 b1) W)
    (id0 : ∀ W, (Instr.index 9 (.string td) (.int .i64 0)).run Tryd.prog W = .ok (.int .u8 c0) W)
    (ih0 : ∀ W, (Instr.index 9 (.string th) (.int .i64 0)).run Tryd.prog W = .ok (.int .u8 g0) W) (ih1 : ∀ W, (Instr.index 9 (.string th) (.int .i64 1)).run Tryd.prog W = .ok (.int .u8 g1) W)
    (zy : ty.size ≤ 9) (zm : tm.size ≤ 9) (zd : td.size ≤ 9) (zh : th.size ≤ 9) (zi : ti.size ≤ 9) (zs : ts.size ≤ 9) (z10 : t10.size ≤ 10) (zy2 : ty2.size ≤ 9) (zd1 : td1.size ≤ 9) (zw : wkS.size ≤ 9) (zmo : moS.size ≤ 9) (zz1 : z1.size ≤ 9) (zz2 : z2.size ≤ 9) (zh12 : h12.size ≤ 9) (hk : k < 11)
    (shU : List UInt8) (hsh : Hid ((c0 = 48 → 32 :: td1.data.toList = shU) ∧ (¬ c0 = 48 → td.data.toList = shU))) (hab : Hid (ab = if off < 0 then -off else off))
    (hwk : ∀ h, (#[.string ⟨#[84, 104, 117]⟩, .string ⟨#[70, 114, 105]⟩, .string ⟨#[83, 97, 116]⟩, .string ⟨#[83, 117, 110]⟩, .string ⟨#[77, 111, 110]⟩, .string ⟨#[84, 117, 101]⟩, .string ⟨#[87, 101, 100]⟩] : Array Value)[j]'h = .string wkS)
    (hmo : ∀ h, (#[.string ⟨#[74, 97, 110]⟩, .string ⟨#[70, 101, 98]⟩, .string ⟨#[77, 97, 114]⟩, .string ⟨#[65, 112, 114]⟩, .string ⟨#[77, 97, 121]⟩, .string ⟨#[74, 117, 110]⟩, .string ⟨#[74, 117, 108]⟩, .string ⟨#[65, 117, 103]⟩, .string ⟨#[83, 101, 112]⟩, .string ⟨#[79, 99, 116]⟩, .string ⟨#[78, 111, 118]⟩, .string ⟨#[68, 101, 99]⟩] : Array Value)[mI]'h = .string moS) :
    Calls Tryd.prog 6 #[.int .i64 ns, .int .i64 off, .int .i64 k] w fun e w' => e = .returned (.string ⟨(laidL wkS.data.toList moS.data.toList shU ty.data.toList ty2.data.toList td.data.toList th.data.toList ti.data.toList ts.data.toList t10.data.toList (d9 F) h12.data.toList off hh z1.data.toList z2.data.toList k).toArray⟩) ∧ Below w0.heap.size w0 w' := by
  have HB := Lib.hid hB
  clear hB
  go_enter Tryd.func6, Tryd.ntmps6
  go_wp2_with (first
    | (go_at_call 11; (first | (with_reducible refine (G2.out _).mono ?_) | (with_reducible refine (G4.out _).mono ?_) | (with_reducible refine (G5.out _).mono ?_)); rintro e w' ⟨rfl, rfl⟩)
    | (go_at_call 10; (first | ((with_reducible refine (G1.out _ HB.out).mono ?_); rintro e v1 ⟨rfl, hv1⟩; have B1 := Lib.hid hv1; clear hv1) | ((with_reducible refine (G3.out _ B1.out).mono ?_); rintro e v2 ⟨rfl, hv2⟩; have B2 := Lib.hid hv2; clear hv2))))
  go_quiet (fail)
  go_upto_if 49 with fail
  go_cut [15] (fun v wc => ∃ f0 : ByteArray, v = .string f0 ∧ f0.size ≤ 18 ∧ Hid (9 ≤ f0.data.toList.length ∧ f0.data.toList.take 9 = d9 F ∧ Below w0.heap.size w0 wc))
  case first =>
    rcases HFS.out with ⟨hle, hz9⟩ | ⟨x, m, hgt, hle, hm, sx, hx9, hfr⟩
    · have HZ := Lib.hid hz9
      clear hz9
      go_wp2_with fail
      go_meet
      exact ⟨_, rfl, by decide, Lib.hid ⟨by decide, by rw [HZ.out]; rfl, below_drewN B2.out _⟩⟩
    · have hm2 : (S1.size : Int) - 1 = m := by omega
      have HX := Lib.hid (And.intro hm hfr)
      clear hm hfr
      go_wp2_with fail
      go_meet
      refine ⟨_, rfl, ?_, Lib.hid ⟨?_, ?_, below_drewN B2.out _⟩⟩
      · rw [size_add]
        exact Nat.add_le_add hx9 (Nat.le_refl 9)
      · simp
      · have := HX.out.2.whole hF
        rw [ByteArray.data_append, Array.toList_append]
        exact this
  case rest =>
  obtain ⟨f0, rfl, hf18, HF0⟩ := hcut
  have hf9 : 9 ≤ f0.size := by
    have h := HF0.out.1
    have h3 : f0.size = f0.data.toList.length := by simp
    omega
  have HBc := Lib.hid HF0.out.2.2
  go_wp2_with (first
    | (go_at_call 11; (first | (with_reducible refine (G2.out _).mono ?_) | (with_reducible refine (G4.out _).mono ?_) | (with_reducible refine (G5.out _).mono ?_)); rintro e w' ⟨rfl, rfl⟩))
  go_region
  go_upto_if 89 with fail
  obtain ⟨fr, hfr⟩ : ∃ fr : ByteArray, fr = f0.extract 0 9 := ⟨_, rfl⟩
  rw [← hfr]
  have hfr9 : fr.size = 9 := by
    have h3 : fr.size = fr.data.toList.length := by simp
    rw [h3, hfr, Lib.extract_data, List.length_take, List.length_drop]
    have h4 : f0.size = f0.data.toList.length := by simp
    omega
  have hfrl : fr.size ≤ 9 := by omega
  have hfrg : 9 ≤ fr.size := by omega
  have HFR : Hid (fr.data.toList = d9 F) := Lib.hid (by
    rw [hfr, Lib.extract_data]
    exact HF0.out.2.1)
  clear hfr hfr9 hwk hmo
  go_cut [19] (fun v w1 => ∃ su : ByteArray, v = .string su ∧ su.size ≤ 10 ∧ Hid (su.data.toList = shU ∧ Below w0.heap.size w0 w1))
  case first =>
    by_cases hc : c0 = 48
    · have hcb : (c0 == 48) = true := beq_iff_eq.2 hc
      have HC := Lib.hid hc
      clear hc
      go_wp2_with fail
      go_meet
      refine ⟨_, rfl, ?_, Lib.hid ⟨?_, Below.drew (below2 HBc.out _ _)⟩⟩
      · rw [size_add]
        show 1 + td1.size ≤ 10
        omega
      · have := hsh.out.1 HC.out
        rw [ByteArray.data_append, Array.toList_append, ← this]
        rfl
    · have hcb : (c0 == 48) = false := beq_eq_false_iff_ne.2 hc
      go_wp2_with fail
      go_meet
      exact ⟨td, rfl, by omega, Lib.hid ⟨hsh.out.2 hc, Below.drew (below2 HBc.out _ _)⟩⟩
  case rest =>
  obtain ⟨su, rfl, hsu, HSU⟩ := hcut
  go_upto_if 102 with fail
  go_cut [21, 22] (fun v x w2 => ∃ sg : ByteArray, v = .string sg ∧ x = .int .i64 ab ∧ sg.size ≤ 1 ∧ Hid (sg.data.toList = [if off < 0 then 45 else 43] ∧ Below w0.heap.size w0 w2))
  case first =>
    by_cases ho : off < 0
    · have hx : -off = ab := by rw [hab.out, if_pos ho]
      go_wp2_with fail
      go_meet
      exact ⟨_, rfl, rfl, Nat.le_refl 1, Lib.hid ⟨by rw [if_pos (by omega)], HSU.out.2⟩⟩
    · have hx : off = ab := by rw [hab.out, if_neg ho]
      have HX := Lib.hid hx
      clear hx
      go_wp2_with fail
      go_meet
      exact ⟨_, rfl, congrArg _ HX.out, Nat.le_refl 1, Lib.hid ⟨by rw [if_neg (by omega)], HSU.out.2⟩⟩
  case rest =>
  obtain ⟨sg, rfl, rfl, hsg, HSG⟩ := hcut
  have HSG2 := Lib.hid HSG.out.2
  rcases (by omega : k = 0 ∨ k = 1 ∨ k = 2 ∨ k = 3 ∨ k = 4 ∨ k = 5 ∨ k = 6 ∨ k = 7 ∨ k = 8 ∨ k = 9 ∨ k = 10) with rfl | rfl | rfl | rfl | rfl | rfl | rfl | rfl | rfl | rfl | rfl
  · go_wp2_with (first
      | (go_at_call 12; (first | ((with_reducible refine (G6.out _ HSG2.out).mono ?_); rintro e v3 ⟨rfl, hv3⟩; have B3 := Lib.hid hv3; clear hv3) | ((with_reducible refine (G7.out _ B3.out).mono ?_); rintro e v4 ⟨rfl, hv4⟩; have B4 := Lib.hid hv4; clear hv4))))
    go_ret
    refine ⟨out_of ?_, B4.out⟩
    simp only [ByteArray.data_append, Array.toList_append, HSU.out.1, HSG.out.1, laidL, List.append_assoc, Lib.extract_data, HFR.out, List.drop_zero]
    try rfl
  · go_wp2_with (first
      | (go_at_call 12; (first | ((with_reducible refine (G6.out _ HSG2.out).mono ?_); rintro e v3 ⟨rfl, hv3⟩; have B3 := Lib.hid hv3; clear hv3) | ((with_reducible refine (G7.out _ B3.out).mono ?_); rintro e v4 ⟨rfl, hv4⟩; have B4 := Lib.hid hv4; clear hv4))))
    go_ret
    refine ⟨out_of ?_, B4.out⟩
    simp only [ByteArray.data_append, Array.toList_append, HSU.out.1, HSG.out.1, laidL, List.append_assoc, Lib.extract_data, HFR.out, List.drop_zero]
    try rfl
  · go_wp2_with (first
      | (go_at_call 12; (first | ((with_reducible refine (G6.out _ HSG2.out).mono ?_); rintro e v3 ⟨rfl, hv3⟩; have B3 := Lib.hid hv3; clear hv3) | ((with_reducible refine (G7.out _ B3.out).mono ?_); rintro e v4 ⟨rfl, hv4⟩; have B4 := Lib.hid hv4; clear hv4))))
    go_ret
    refine ⟨out_of ?_, B4.out⟩
    simp only [ByteArray.data_append, Array.toList_append, HSU.out.1, HSG.out.1, laidL, List.append_assoc, Lib.extract_data, HFR.out, List.drop_zero]
    try rfl
  · go_wp2_with (first
      | (go_at_call 12; (first | ((with_reducible refine (G6.out _ HSG2.out).mono ?_); rintro e v3 ⟨rfl, hv3⟩; have B3 := Lib.hid hv3; clear hv3) | ((with_reducible refine (G7.out _ B3.out).mono ?_); rintro e v4 ⟨rfl, hv4⟩; have B4 := Lib.hid hv4; clear hv4))))
    go_ret
    refine ⟨out_of ?_, B4.out⟩
    simp only [ByteArray.data_append, Array.toList_append, HSU.out.1, HSG.out.1, laidL, List.append_assoc, Lib.extract_data, HFR.out, List.drop_zero]
    try rfl
  · go_wp2_with (first
      | (go_at_call 12; (first | ((with_reducible refine (G6.out _ HSG2.out).mono ?_); rintro e v3 ⟨rfl, hv3⟩; have B3 := Lib.hid hv3; clear hv3) | ((with_reducible refine (G7.out _ B3.out).mono ?_); rintro e v4 ⟨rfl, hv4⟩; have B4 := Lib.hid hv4; clear hv4))))
    go_quiet (fail)
    by_cases hp : hh < 12
    · go_wp2_with (first | (go_at_call 13; refine (G8.out _ (below_drewN B4.out _)).mono ?_; rintro e v5 ⟨rfl, hv5⟩; have B5 := Lib.hid hv5; clear hv5))
      go_ret
      refine ⟨out_of ?_, B5.out⟩
      simp only [ByteArray.data_append, Array.toList_append, laidL, List.append_assoc, if_pos (by omega : hh < 12)]
      rfl
    · go_wp2_with (first | (go_at_call 13; refine (G8.out _ (below_drewN B4.out _)).mono ?_; rintro e v5 ⟨rfl, hv5⟩; have B5 := Lib.hid hv5; clear hv5))
      go_ret
      refine ⟨out_of ?_, B5.out⟩
      simp only [ByteArray.data_append, Array.toList_append, laidL, List.append_assoc, if_neg (by omega : ¬ hh < 12)]
      rfl
  · go_wp2_with (first
      | (go_at_call 12; (first | ((with_reducible refine (G6.out _ HSG2.out).mono ?_); rintro e v3 ⟨rfl, hv3⟩; have B3 := Lib.hid hv3; clear hv3) | ((with_reducible refine (G7.out _ B3.out).mono ?_); rintro e v4 ⟨rfl, hv4⟩; have B4 := Lib.hid hv4; clear hv4))))
    go_ret
    refine ⟨out_of ?_, B4.out⟩
    simp only [ByteArray.data_append, Array.toList_append, HSU.out.1, HSG.out.1, laidL, List.append_assoc, Lib.extract_data, HFR.out, List.drop_zero]
    try rfl
  · go_wp2_with (first
      | (go_at_call 12; (first | ((with_reducible refine (G6.out _ HSG2.out).mono ?_); rintro e v3 ⟨rfl, hv3⟩; have B3 := Lib.hid hv3; clear hv3) | ((with_reducible refine (G7.out _ B3.out).mono ?_); rintro e v4 ⟨rfl, hv4⟩; have B4 := Lib.hid hv4; clear hv4))))
    go_ret
    refine ⟨out_of ?_, B4.out⟩
    simp only [ByteArray.data_append, Array.toList_append, HSU.out.1, HSG.out.1, laidL, List.append_assoc, Lib.extract_data, HFR.out, List.drop_zero]
    try rfl
  · go_wp2_with (first
      | (go_at_call 12; (first | ((with_reducible refine (G6.out _ HSG2.out).mono ?_); rintro e v3 ⟨rfl, hv3⟩; have B3 := Lib.hid hv3; clear hv3) | ((with_reducible refine (G7.out _ B3.out).mono ?_); rintro e v4 ⟨rfl, hv4⟩; have B4 := Lib.hid hv4; clear hv4))))
    go_ret
    refine ⟨out_of ?_, B4.out⟩
    simp only [ByteArray.data_append, Array.toList_append, HSU.out.1, HSG.out.1, laidL, List.append_assoc, Lib.extract_data, HFR.out, List.drop_zero]
    try rfl
  · go_wp2_with (first
      | (go_at_call 12; (first | ((with_reducible refine (G6.out _ HSG2.out).mono ?_); rintro e v3 ⟨rfl, hv3⟩; have B3 := Lib.hid hv3; clear hv3) | ((with_reducible refine (G7.out _ B3.out).mono ?_); rintro e v4 ⟨rfl, hv4⟩; have B4 := Lib.hid hv4; clear hv4))))
    go_ret
    refine ⟨out_of ?_, B4.out⟩
    simp only [ByteArray.data_append, Array.toList_append, HSU.out.1, HSG.out.1, laidL, List.append_assoc, Lib.extract_data, HFR.out, List.drop_zero]
    try rfl
  · go_wp2_with (first
      | (go_at_call 12; (first | ((with_reducible refine (G6.out _ HSG2.out).mono ?_); rintro e v3 ⟨rfl, hv3⟩; have B3 := Lib.hid hv3; clear hv3) | ((with_reducible refine (G7.out _ B3.out).mono ?_); rintro e v4 ⟨rfl, hv4⟩; have B4 := Lib.hid hv4; clear hv4))))
    go_ret
    refine ⟨out_of ?_, B4.out⟩
    simp only [ByteArray.data_append, Array.toList_append, HSU.out.1, HSG.out.1, laidL, List.append_assoc, Lib.extract_data, HFR.out, List.drop_zero]
    try rfl
  · go_wp2_with (first
      | (go_at_call 12; (first | ((with_reducible refine (G6.out _ HSG2.out).mono ?_); rintro e v3 ⟨rfl, hv3⟩; have B3 := Lib.hid hv3; clear hv3) | ((with_reducible refine (G7.out _ B3.out).mono ?_); rintro e v4 ⟨rfl, hv4⟩; have B4 := Lib.hid hv4; clear hv4))))
    go_ret
    refine ⟨out_of ?_, B4.out⟩
    simp only [ByteArray.data_append, Array.toList_append, HSU.out.1, HSG.out.1, laidL, List.append_assoc, Lib.extract_data, HFR.out, List.drop_zero]
    try rfl
end Go.Proofs.YtggebombeflmhaaDoor
