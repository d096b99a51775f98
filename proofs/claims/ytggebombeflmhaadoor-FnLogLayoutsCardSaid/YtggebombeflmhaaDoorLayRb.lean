/- A time by a layout: walks. -/
import Derived.Test.YtggebombeflmhaaDoorLayQ
namespace Go.Proofs.YtggebombeflmhaaDoor
open Go.RowKit

set_option maxRecDepth 100000 in
set_option maxHeartbeats 40000000 in
theorem lay_0lt {b N s F : Nat} {mm S off Y M D hh mi c wk A Dv : Int} {ms m3 ds d3 : ByteArray} (E : Env N s F mm S off Y M D hh mi c wk A Dv ms m3 ds d3) (hd : D < 10) (l0 : ByteArray) (hl0 : l0.data.toList = text (layC 0))
    {w0 w : World} (hB : Below w0.heap.size w0 w) (hT : Tabs w0) (hb0 : w0.heap.size ≤ b) (_hbw : b < w.heap.size) (hBuf : Buf w b []) : Calls Tryd.prog 22 #[timeV S F off, .slice (some ⟨b, 0, none⟩) 0 64, .string l0] w (Done b N s F mm (layC 0) w0) := by
  have HB := Lib.hid hB
  have HT := Lib.hid hT
  have HE := Lib.hid E
  have HS0 : Hid (∀ W, Below (w.alloc (timeC S F off)).heap.size (w.alloc (timeC S F off)) W → (St b N s F mm (layC 0) (w.alloc (timeC S F off)) (render N s F mm [([], .mon), ([32], .jan), ([32], .under), ([32], .hour), ([58], .min), ([58], .sec), ([32], .year)]) 0 W)) := Lib.hid fun W hW => St.step ⟨[], rfl, hBuf.alloc _, Keeps.refl _ _, rfl⟩ hW
  have hY0 := E.Y0
  have hY1 := E.Y1
  have hM0 := E.M0
  have hM1 := E.M1
  have hD0 := E.D0
  have hD1 := E.D1
  have hh0 := E.h0
  have hh1 := E.h1
  have hi0 := E.i0
  have hi1 := E.i1
  have hc0 := E.c0
  have hc1 := E.c1
  have sm := E.sm
  have sd := E.sd
  have HU := Lib.hid (under_lt E hd)
  obtain ⟨pe, hpe⟩ : ∃ x : ByteArray, x = ⟨#[]⟩ := ⟨_, rfl⟩
  have epe : pe.toList.isEmpty = true := by rw [hpe, Lib.toList_data]; rfl
  have Hpe : Hid (pe.data.toList = []) := Lib.hid (by rw [hpe])
  obtain ⟨ps, hps⟩ : ∃ x : ByteArray, x = ⟨#[32]⟩ := ⟨_, rfl⟩
  have eps : ps.toList.isEmpty = false := by rw [hps, Lib.toList_data]; rfl
  have Hps : Hid (ps.data.toList = [32]) := Lib.hid (by rw [hps])
  obtain ⟨pc, hpc⟩ : ∃ x : ByteArray, x = ⟨#[58]⟩ := ⟨_, rfl⟩
  have epc : pc.toList.isEmpty = false := by rw [hpc, Lib.toList_data]; rfl
  have Hpc : Hid (pc.data.toList = [58]) := Lib.hid (by rw [hpc])
  obtain ⟨l1, hl1⟩ : ∃ x : ByteArray, x = ⟨(text [([32], .jan), ([32], .under), ([32], .hour), ([58], .min), ([58], .sec), ([32], .year)]).toArray⟩ := ⟨_, rfl⟩
  have hd1 : l1.data.toList = text [([32], .jan), ([32], .under), ([32], .hour), ([58], .min), ([58], .sec), ([32], .year)] := by rw [hl1]
  obtain ⟨l2, hl2⟩ : ∃ x : ByteArray, x = ⟨(text [([32], .under), ([32], .hour), ([58], .min), ([58], .sec), ([32], .year)]).toArray⟩ := ⟨_, rfl⟩
  have hd2 : l2.data.toList = text [([32], .under), ([32], .hour), ([58], .min), ([58], .sec), ([32], .year)] := by rw [hl2]
  obtain ⟨l3, hl3⟩ : ∃ x : ByteArray, x = ⟨(text [([32], .hour), ([58], .min), ([58], .sec), ([32], .year)]).toArray⟩ := ⟨_, rfl⟩
  have hd3 : l3.data.toList = text [([32], .hour), ([58], .min), ([58], .sec), ([32], .year)] := by rw [hl3]
  obtain ⟨l4, hl4⟩ : ∃ x : ByteArray, x = ⟨(text [([58], .min), ([58], .sec), ([32], .year)]).toArray⟩ := ⟨_, rfl⟩
  have hd4 : l4.data.toList = text [([58], .min), ([58], .sec), ([32], .year)] := by rw [hl4]
  obtain ⟨l5, hl5⟩ : ∃ x : ByteArray, x = ⟨(text [([58], .sec), ([32], .year)]).toArray⟩ := ⟨_, rfl⟩
  have hd5 : l5.data.toList = text [([58], .sec), ([32], .year)] := by rw [hl5]
  obtain ⟨l6, hl6⟩ : ∃ x : ByteArray, x = ⟨(text [([32], .year)]).toArray⟩ := ⟨_, rfl⟩
  have hd6 : l6.data.toList = text [([32], .year)] := by rw [hl6]
  have en0 : l0.toList.isEmpty = false := by rw [Lib.toList_data, hl0]; decide
  have z0 : l0.size ≤ 60 := by rw [text_size l0 (layC 0) hl0]; decide
  have C0 : Hid (∀ W, Tabs W → Calls Tryd.prog 35 #[.string l0] W fun e w' => e = .returned (.tuple #[.string pe, .int .i64 262, .string l1]) ∧ Below W.heap.size W w') := Lib.hid fun W hW => chunk_named [] .mon (text [([32], .jan), ([32], .under), ([32], .hour), ([58], .min), ([58], .sec), ([32], .year)]) (by decide) l0 pe l1 hpe hl1 hl0 z0 262 rfl W hW
  have en1 : l1.toList.isEmpty = false := by rw [Lib.toList_data, hd1]; decide
  have z1 : l1.size ≤ 60 := by rw [text_size l1 [([32], .jan), ([32], .under), ([32], .hour), ([58], .min), ([58], .sec), ([32], .year)] hd1]; decide
  have C1 : Hid (∀ W, Tabs W → Calls Tryd.prog 35 #[.string l1] W fun e w' => e = .returned (.tuple #[.string ps, .int .i64 258, .string l2]) ∧ Below W.heap.size W w') := Lib.hid fun W hW => chunk_named [32] .jan (text [([32], .under), ([32], .hour), ([58], .min), ([58], .sec), ([32], .year)]) (by decide) l1 ps l2 hps hl2 hd1 z1 258 rfl W hW
  have en2 : l2.toList.isEmpty = false := by rw [Lib.toList_data, hd2]; decide
  have z2 : l2.size ≤ 60 := by rw [text_size l2 [([32], .under), ([32], .hour), ([58], .min), ([58], .sec), ([32], .year)] hd2]; decide
  have C2 : Hid (∀ W, Tabs W → Calls Tryd.prog 35 #[.string l2] W fun e w' => e = .returned (.tuple #[.string ps, .int .i64 264, .string l3]) ∧ Below W.heap.size W w') := Lib.hid fun W hW => chunk_named [32] .under (text [([32], .hour), ([58], .min), ([58], .sec), ([32], .year)]) (by decide) l2 ps l3 hps hl3 hd2 z2 264 rfl W hW
  have en3 : l3.toList.isEmpty = false := by rw [Lib.toList_data, hd3]; decide
  have z3 : l3.size ≤ 60 := by rw [text_size l3 [([32], .hour), ([58], .min), ([58], .sec), ([32], .year)] hd3]; decide
  have C3 : Hid (∀ W, Tabs W → Calls Tryd.prog 35 #[.string l3] W fun e w' => e = .returned (.tuple #[.string ps, .int .i64 1036, .string l4]) ∧ Below W.heap.size W w') := Lib.hid fun W hW => chunk_named [32] .hour (text [([58], .min), ([58], .sec), ([32], .year)]) (by decide) l3 ps l4 hps hl4 hd3 z3 1036 rfl W hW
  have en4 : l4.toList.isEmpty = false := by rw [Lib.toList_data, hd4]; decide
  have z4 : l4.size ≤ 60 := by rw [text_size l4 [([58], .min), ([58], .sec), ([32], .year)] hd4]; decide
  have C4 : Hid (∀ W, Tabs W → Calls Tryd.prog 35 #[.string l4] W fun e w' => e = .returned (.tuple #[.string pc, .int .i64 1040, .string l5]) ∧ Below W.heap.size W w') := Lib.hid fun W hW => chunk_named [58] .min (text [([58], .sec), ([32], .year)]) (by decide) l4 pc l5 hpc hl5 hd4 z4 1040 rfl W hW
  have en5 : l5.toList.isEmpty = false := by rw [Lib.toList_data, hd5]; decide
  have z5 : l5.size ≤ 60 := by rw [text_size l5 [([58], .sec), ([32], .year)] hd5]; decide
  have C5 : Hid (∀ W, Tabs W → Calls Tryd.prog 35 #[.string l5] W fun e w' => e = .returned (.tuple #[.string pc, .int .i64 1042, .string l6]) ∧ Below W.heap.size W w') := Lib.hid fun W hW => chunk_named [58] .sec (text [([32], .year)]) (by decide) l5 pc l6 hpc hl6 hd5 z5 1042 rfl W hW
  have en6 : l6.toList.isEmpty = false := by rw [Lib.toList_data, hd6]; decide
  have z6 : l6.size ≤ 60 := by rw [text_size l6 [([32], .year)] hd6]; decide
  have C6 : Hid (∀ W, Tabs W → Calls Tryd.prog 35 #[.string l6] W fun e w' => e = .returned (.tuple #[.string ps, .int .i64 275, .string ⟨#[]⟩]) ∧ Below W.heap.size W w') := Lib.hid fun W hW => chunk_named [32] .year (text []) (by decide) l6 ps ⟨#[]⟩ hps rfl hd6 z6 275 rfl W hW
  clear hB hT E hBuf hl0 hpe hps hpc hl1 hd1 hl2 hd2 hl3 hd3 hl4 hd4 hl5 hd5 hl6 hd6 z0 z1 z2 z3 z4 z5 z6
  have eN0 := Lib.hid en0
  have eN1 := Lib.hid en1
  have eN2 := Lib.hid en2
  have eN3 := Lib.hid en3
  have eN4 := Lib.hid en4
  have eN5 := Lib.hid en5
  have eN6 := Lib.hid en6
  unfold timeV at *
  go_enter Tryd.func22, Tryd.ntmps22
  go_wp2_with (first
    | (go_at_call 27; refine (HE.out.loc _).mono ?_; rintro e wL ⟨rfl, hbL⟩)
    | (go_at_call 28; refine (HE.out.days _).mono ?_; rintro e w' ⟨rfl, rfl⟩))
  have S0 := Lib.hid (HS0.out wL hbL)
  clear hbL
  refine wp_loop_rounds 8 ?_
  rw [rounds_succ]
  go_wp2_with (first
    | (go_at_call 35; refine (C0.out _ (HT.out.below (St.below S0.out HB.out hb0))).mono ?_; rintro e v0 ⟨rfl, hv0⟩; have A0 : Hid ((St b N s F mm (layC 0) (w.alloc (timeC S F off)) ([] ++ (shown N s F mm .mon ++ render N s F mm [([32], .jan), ([32], .under), ([32], .hour), ([58], .min), ([58], .sec), ([32], .year)])) (0) v0)) := Lib.hid (St.step S0.out hv0); clear hv0; obtain ⟨a0, b0⟩ := A0.out; have B0 := Lib.hid b0; clear b0)
    | (go_at_call 29; refine (HE.out.date _).mono ?_; rintro e w' ⟨rfl, rfl⟩)
    | (go_at_call 38; refine (HE.out.week _).mono ?_; rintro e w' ⟨rfl, rfl⟩))
  have D0 : Hid ((St b N s F mm (layC 0) (w.alloc (timeC S F off)) (shown N s F mm .mon ++ render N s F mm [([32], .jan), ([32], .under), ([32], .hour), ([58], .min), ([58], .sec), ([32], .year)]) (0) v0)) := A0
  obtain ⟨ga0, ha0⟩ := D0.out
  have Ga0 := Lib.hid ha0
  clear ha0
  go_wp2_with (first
    | (go_at_call 39; refine (HE.out.dayn _ (HT.out.below (St.below D0.out HB.out hb0))).mono ?_; rintro e w' ⟨rfl, rfl⟩)
    | (at_builtin; refine Lib.wpList_append_run _ rfl _ _ 43 9 rfl _ _ rfl rfl _ _ (buf_text Ga0.out.2.1 d3 (shown N s F mm .mon) 3 HE.out.mon (shown3 N s F mm .mon (by simp)) (by omega)) ?_))
  have S1 : Hid ((St b N s F mm (layC 0) (w.alloc (timeC S F off)) (render N s F mm [([32], .jan), ([32], .under), ([32], .hour), ([58], .min), ([58], .sec), ([32], .year)]) (3) (v0.setCells b (0) (List.map byteV (shown N s F mm .mon))))) := Lib.hid (St.cells (k := 3) (shown3 N s F mm .mon (by simp)) Ga0.out.1 Ga0.out.2.2.1 Ga0.out.2.2.2 Ga0.out.2.1 (Keeps.refl _ _) (by omega))
  rw [rounds_succ]
  go_wp2_with (first
    | (go_at_call 35; refine (C1.out _ (HT.out.below (St.below S1.out HB.out hb0))).mono ?_; rintro e v1 ⟨rfl, hv1⟩; have A1 : Hid ((St b N s F mm (layC 0) (w.alloc (timeC S F off)) ([32] ++ (shown N s F mm .jan ++ render N s F mm [([32], .under), ([32], .hour), ([58], .min), ([58], .sec), ([32], .year)])) (3) v1)) := Lib.hid (St.step S1.out hv1); clear hv1; obtain ⟨a1, b1⟩ := A1.out; have B1 := Lib.hid b1; clear b1)
    | (go_at_call 29; refine (HE.out.date _).mono ?_; rintro e w' ⟨rfl, rfl⟩)
    | (at_builtin; refine Lib.wpList_append_run _ rfl _ _ 43 9 rfl _ _ rfl rfl _ _ (buf_text B1.out.2.1 ps [32] 1 Hps.out rfl (by omega)) ?_))
  have D1 : Hid ((St b N s F mm (layC 0) (w.alloc (timeC S F off)) (shown N s F mm .jan ++ render N s F mm [([32], .under), ([32], .hour), ([58], .min), ([58], .sec), ([32], .year)]) (4) (v1.setCells b (3) (List.map byteV [32])))) := Lib.hid (St.cells (k := 1) rfl B1.out.1 B1.out.2.2.1 B1.out.2.2.2 B1.out.2.1 (Keeps.refl _ _) (by omega))
  obtain ⟨ga1, ha1⟩ := D1.out
  have Ga1 := Lib.hid ha1
  clear ha1
  go_wp2_with (first
    | (go_at_call 37; refine (HE.out.month _ (HT.out.below (St.below D1.out HB.out hb0))).mono ?_; rintro e w' ⟨rfl, rfl⟩)
    | (at_builtin; refine Lib.wpList_append_run _ rfl _ _ 43 9 rfl _ _ rfl rfl _ _ (buf_text Ga1.out.2.1 m3 (shown N s F mm .jan) 3 HE.out.jan (shown3 N s F mm .jan (by simp)) (by omega)) ?_))
  have S2 : Hid ((St b N s F mm (layC 0) (w.alloc (timeC S F off)) (render N s F mm [([32], .under), ([32], .hour), ([58], .min), ([58], .sec), ([32], .year)]) (7) ((v1.setCells b (3) (List.map byteV [32])).setCells b (4) (List.map byteV (shown N s F mm .jan))))) := Lib.hid (St.cells (k := 3) (shown3 N s F mm .jan (by simp)) Ga1.out.1 Ga1.out.2.2.1 Ga1.out.2.2.2 Ga1.out.2.1 (Keeps.refl _ _) (by omega))
  rw [rounds_succ]
  go_wp2_with (first
    | (go_at_call 35; refine (C2.out _ (HT.out.below (St.below S2.out HB.out hb0))).mono ?_; rintro e v2 ⟨rfl, hv2⟩; have A2 : Hid ((St b N s F mm (layC 0) (w.alloc (timeC S F off)) ([32] ++ (shown N s F mm .under ++ render N s F mm [([32], .hour), ([58], .min), ([58], .sec), ([32], .year)])) (7) v2)) := Lib.hid (St.step S2.out hv2); clear hv2; obtain ⟨a2, b2⟩ := A2.out; have B2 := Lib.hid b2; clear b2)
    | (go_at_call 29; refine (HE.out.date _).mono ?_; rintro e w' ⟨rfl, rfl⟩)
    | (at_builtin; refine Lib.wpList_append_run _ rfl _ _ 43 9 rfl _ _ rfl rfl _ _ (buf_text B2.out.2.1 ps [32] 1 Hps.out rfl (by omega)) ?_)
    | (at_builtin; have D2 : Hid ((St b N s F mm (layC 0) (w.alloc (timeC S F off)) (shown N s F mm .under ++ render N s F mm [([32], .hour), ([58], .min), ([58], .sec), ([32], .year)]) (8) (v2.setCells b (7) (List.map byteV [32])))) := Lib.hid (St.cells (k := 1) rfl B2.out.1 B2.out.2.2.1 B2.out.2.2.2 B2.out.2.1 (Keeps.refl _ _) (by omega)); obtain ⟨ga2, ha2⟩ := D2.out; have Ga2 := Lib.hid ha2; clear ha2; refine Lib.wpList_append_run _ rfl _ _ 43 43 rfl _ _ rfl rfl _ _ (buf_append (m := [32]) (Ga2.out.2.1.alloc _) rfl (by omega) (new_cells _ _ _ rfl)) ?_))
  have U2 : Hid ((St b N s F mm (layC 0) (w.alloc (timeC S F off)) (digs D.toNat ++ render N s F mm [([32], .hour), ([58], .min), ([58], .sec), ([32], .year)]) (9) (((v2.setCells b (7) (List.map byteV [32])).alloc (.cells #[.int .u8 32] 5)).setCells b (8) (List.map byteV [32])))) := Lib.hid (St.cells (k := 1) rfl Ga2.out.1 Ga2.out.2.2.1 (by have h := Ga2.out.2.2.2; rw [← HU.out.1, List.append_assoc] at h; exact h) (Ga2.out.2.1.alloc _) ((Keeps.refl _ _).alloc _) (by omega))
  obtain ⟨gb2, hb2⟩ := U2.out
  have Gb2 := Lib.hid hb2
  clear hb2
  refine (int_none b (9) _ gb2 (by omega) (by omega) Gb2.out.1 (by omega) _ Gb2.out.2.1).mono ?_
  rintro e w3 hp
  obtain ⟨rfl, kS3⟩ := St.put (left := render N s F mm [([32], .hour), ([58], .min), ([58], .sec), ([32], .year)]) (m := digs D.toNat) (k := 1) HU.out.2 Gb2.out.1 Gb2.out.2.2.1 Gb2.out.2.2.2 hp
  have S3 := Lib.hid kS3
  clear kS3
  go_wp2_with fail
  rw [rounds_succ]
  go_wp2_with (first
    | (go_at_call 35; refine (C3.out _ (HT.out.below (St.below S3.out HB.out hb0))).mono ?_; rintro e v3 ⟨rfl, hv3⟩; have A3 : Hid ((St b N s F mm (layC 0) (w.alloc (timeC S F off)) ([32] ++ (shown N s F mm .hour ++ render N s F mm [([58], .min), ([58], .sec), ([32], .year)])) (10) v3)) := Lib.hid (St.step S3.out hv3); clear hv3; obtain ⟨a3, b3⟩ := A3.out; have B3 := Lib.hid b3; clear b3)
    | (go_at_call 31; refine (HE.out.clock _).mono ?_; rintro e w' ⟨rfl, rfl⟩)
    | (at_builtin; refine Lib.wpList_append_run _ rfl _ _ 43 9 rfl _ _ rfl rfl _ _ (buf_text B3.out.2.1 ps [32] 1 Hps.out rfl (by omega)) ?_))
  have D3 : Hid ((St b N s F mm (layC 0) (w.alloc (timeC S F off)) (shown N s F mm .hour ++ render N s F mm [([58], .min), ([58], .sec), ([32], .year)]) (11) (v3.setCells b (10) (List.map byteV [32])))) := Lib.hid (St.cells (k := 1) rfl B3.out.1 B3.out.2.2.1 B3.out.2.2.2 B3.out.2.1 (Keeps.refl _ _) (by omega))
  obtain ⟨ga3, ha3⟩ := D3.out
  have Ga3 := Lib.hid ha3
  clear ha3
  refine (int_two b (11) _ ga3 (by omega) (by omega) Ga3.out.1 (by omega) _ Ga3.out.2.1).mono ?_
  rintro e w4 hp
  rw [HE.out.hour] at hp
  obtain ⟨rfl, kS4⟩ := St.put (left := render N s F mm [([58], .min), ([58], .sec), ([32], .year)]) (m := shown N s F mm .hour) (k := 2) rfl Ga3.out.1 Ga3.out.2.2.1 (by simpa [List.append_assoc] using Ga3.out.2.2.2) hp
  have S4 := Lib.hid kS4
  clear kS4
  go_wp2_with fail
  rw [rounds_succ]
  go_wp2_with (first
    | (go_at_call 35; refine (C4.out _ (HT.out.below (St.below S4.out HB.out hb0))).mono ?_; rintro e v4 ⟨rfl, hv4⟩; have A4 : Hid ((St b N s F mm (layC 0) (w.alloc (timeC S F off)) ([58] ++ (shown N s F mm .min ++ render N s F mm [([58], .sec), ([32], .year)])) (13) v4)) := Lib.hid (St.step S4.out hv4); clear hv4; obtain ⟨a4, b4⟩ := A4.out; have B4 := Lib.hid b4; clear b4)
    | (go_at_call 31; refine (HE.out.clock _).mono ?_; rintro e w' ⟨rfl, rfl⟩)
    | (at_builtin; refine Lib.wpList_append_run _ rfl _ _ 43 9 rfl _ _ rfl rfl _ _ (buf_text B4.out.2.1 pc [58] 1 Hpc.out rfl (by omega)) ?_))
  have D4 : Hid ((St b N s F mm (layC 0) (w.alloc (timeC S F off)) (shown N s F mm .min ++ render N s F mm [([58], .sec), ([32], .year)]) (14) (v4.setCells b (13) (List.map byteV [58])))) := Lib.hid (St.cells (k := 1) rfl B4.out.1 B4.out.2.2.1 B4.out.2.2.2 B4.out.2.1 (Keeps.refl _ _) (by omega))
  obtain ⟨ga4, ha4⟩ := D4.out
  have Ga4 := Lib.hid ha4
  clear ha4
  refine (int_two b (14) _ ga4 (by omega) (by omega) Ga4.out.1 (by omega) _ Ga4.out.2.1).mono ?_
  rintro e w5 hp
  rw [HE.out.min] at hp
  obtain ⟨rfl, kS5⟩ := St.put (left := render N s F mm [([58], .sec), ([32], .year)]) (m := shown N s F mm .min) (k := 2) rfl Ga4.out.1 Ga4.out.2.2.1 (by simpa [List.append_assoc] using Ga4.out.2.2.2) hp
  have S5 := Lib.hid kS5
  clear kS5
  go_wp2_with fail
  rw [rounds_succ]
  go_wp2_with (first
    | (go_at_call 35; refine (C5.out _ (HT.out.below (St.below S5.out HB.out hb0))).mono ?_; rintro e v5 ⟨rfl, hv5⟩; have A5 : Hid ((St b N s F mm (layC 0) (w.alloc (timeC S F off)) ([58] ++ (shown N s F mm .sec ++ render N s F mm [([32], .year)])) (16) v5)) := Lib.hid (St.step S5.out hv5); clear hv5; obtain ⟨a5, b5⟩ := A5.out; have B5 := Lib.hid b5; clear b5)
    | (go_at_call 31; refine (HE.out.clock _).mono ?_; rintro e w' ⟨rfl, rfl⟩)
    | (at_builtin; refine Lib.wpList_append_run _ rfl _ _ 43 9 rfl _ _ rfl rfl _ _ (buf_text B5.out.2.1 pc [58] 1 Hpc.out rfl (by omega)) ?_))
  have D5 : Hid ((St b N s F mm (layC 0) (w.alloc (timeC S F off)) (shown N s F mm .sec ++ render N s F mm [([32], .year)]) (17) (v5.setCells b (16) (List.map byteV [58])))) := Lib.hid (St.cells (k := 1) rfl B5.out.1 B5.out.2.2.1 B5.out.2.2.2 B5.out.2.1 (Keeps.refl _ _) (by omega))
  obtain ⟨ga5, ha5⟩ := D5.out
  have Ga5 := Lib.hid ha5
  clear ha5
  refine (int_two b (17) _ ga5 (by omega) (by omega) Ga5.out.1 (by omega) _ Ga5.out.2.1).mono ?_
  rintro e w6 hp
  rw [HE.out.sec] at hp
  obtain ⟨rfl, kS6⟩ := St.put (left := render N s F mm [([32], .year)]) (m := shown N s F mm .sec) (k := 2) rfl Ga5.out.1 Ga5.out.2.2.1 (by simpa [List.append_assoc] using Ga5.out.2.2.2) hp
  have S6 := Lib.hid kS6
  clear kS6
  go_wp2_with fail
  rw [rounds_succ]
  go_wp2_with (first
    | (go_at_call 35; refine (C6.out _ (HT.out.below (St.below S6.out HB.out hb0))).mono ?_; rintro e v6 ⟨rfl, hv6⟩; have A6 : Hid ((St b N s F mm (layC 0) (w.alloc (timeC S F off)) ([32] ++ (shown N s F mm .year ++ render N s F mm [])) (19) v6)) := Lib.hid (St.step S6.out hv6); clear hv6; obtain ⟨a6, b6⟩ := A6.out; have B6 := Lib.hid b6; clear b6)
    | (go_at_call 29; refine (HE.out.date _).mono ?_; rintro e w' ⟨rfl, rfl⟩)
    | (at_builtin; refine Lib.wpList_append_run _ rfl _ _ 43 9 rfl _ _ rfl rfl _ _ (buf_text B6.out.2.1 ps [32] 1 Hps.out rfl (by omega)) ?_))
  have D6 : Hid ((St b N s F mm (layC 0) (w.alloc (timeC S F off)) (shown N s F mm .year ++ render N s F mm []) (20) (v6.setCells b (19) (List.map byteV [32])))) := Lib.hid (St.cells (k := 1) rfl B6.out.1 B6.out.2.2.1 B6.out.2.2.2 B6.out.2.1 (Keeps.refl _ _) (by omega))
  obtain ⟨ga6, ha6⟩ := D6.out
  have Ga6 := Lib.hid ha6
  clear ha6
  refine (int_four b (20) _ ga6 (by omega) (by omega) Ga6.out.1 (by omega) _ Ga6.out.2.1).mono ?_
  rintro e w7 hp
  rw [HE.out.year] at hp
  obtain ⟨rfl, kS7⟩ := St.put (left := render N s F mm []) (m := shown N s F mm .year) (k := 4) rfl Ga6.out.1 Ga6.out.2.2.1 (by simpa [List.append_assoc] using Ga6.out.2.2.2) hp
  have S7 := Lib.hid kS7
  clear kS7
  go_wp2_with fail
  rw [rounds_succ]
  go_wp2_with fail
  go_ret
  exact St.done S7.out HB.out hb0

set_option maxRecDepth 100000 in
set_option maxHeartbeats 40000000 in
theorem lay_1lt {b N s F : Nat} {mm S off Y M D hh mi c wk A Dv : Int} {ms m3 ds d3 : ByteArray} (E : Env N s F mm S off Y M D hh mi c wk A Dv ms m3 ds d3) (hd : D < 10) (l0 : ByteArray) (hl0 : l0.data.toList = text (layC 1))
    {w0 w : World} (hB : Below w0.heap.size w0 w) (hT : Tabs w0) (hb0 : w0.heap.size ≤ b) (_hbw : b < w.heap.size) (hBuf : Buf w b []) : Calls Tryd.prog 22 #[timeV S F off, .slice (some ⟨b, 0, none⟩) 0 64, .string l0] w (Done b N s F mm (layC 1) w0) := by
  have HB := Lib.hid hB
  have HT := Lib.hid hT
  have HE := Lib.hid E
  have HS0 : Hid (∀ W, Below (w.alloc (timeC S F off)).heap.size (w.alloc (timeC S F off)) W → (St b N s F mm (layC 1) (w.alloc (timeC S F off)) (render N s F mm [([], .mon), ([32], .jan), ([32], .under), ([32], .hour), ([58], .min), ([58], .sec)]) 0 W)) := Lib.hid fun W hW => St.step ⟨[], rfl, hBuf.alloc _, Keeps.refl _ _, rfl⟩ hW
  have hY0 := E.Y0
  have hY1 := E.Y1
  have hM0 := E.M0
  have hM1 := E.M1
  have hD0 := E.D0
  have hD1 := E.D1
  have hh0 := E.h0
  have hh1 := E.h1
  have hi0 := E.i0
  have hi1 := E.i1
  have hc0 := E.c0
  have hc1 := E.c1
  have sm := E.sm
  have sd := E.sd
  have HU := Lib.hid (under_lt E hd)
  obtain ⟨pe, hpe⟩ : ∃ x : ByteArray, x = ⟨#[]⟩ := ⟨_, rfl⟩
  have epe : pe.toList.isEmpty = true := by rw [hpe, Lib.toList_data]; rfl
  have Hpe : Hid (pe.data.toList = []) := Lib.hid (by rw [hpe])
  obtain ⟨ps, hps⟩ : ∃ x : ByteArray, x = ⟨#[32]⟩ := ⟨_, rfl⟩
  have eps : ps.toList.isEmpty = false := by rw [hps, Lib.toList_data]; rfl
  have Hps : Hid (ps.data.toList = [32]) := Lib.hid (by rw [hps])
  obtain ⟨pc, hpc⟩ : ∃ x : ByteArray, x = ⟨#[58]⟩ := ⟨_, rfl⟩
  have epc : pc.toList.isEmpty = false := by rw [hpc, Lib.toList_data]; rfl
  have Hpc : Hid (pc.data.toList = [58]) := Lib.hid (by rw [hpc])
  obtain ⟨l1, hl1⟩ : ∃ x : ByteArray, x = ⟨(text [([32], .jan), ([32], .under), ([32], .hour), ([58], .min), ([58], .sec)]).toArray⟩ := ⟨_, rfl⟩
  have hd1 : l1.data.toList = text [([32], .jan), ([32], .under), ([32], .hour), ([58], .min), ([58], .sec)] := by rw [hl1]
  obtain ⟨l2, hl2⟩ : ∃ x : ByteArray, x = ⟨(text [([32], .under), ([32], .hour), ([58], .min), ([58], .sec)]).toArray⟩ := ⟨_, rfl⟩
  have hd2 : l2.data.toList = text [([32], .under), ([32], .hour), ([58], .min), ([58], .sec)] := by rw [hl2]
  obtain ⟨l3, hl3⟩ : ∃ x : ByteArray, x = ⟨(text [([32], .hour), ([58], .min), ([58], .sec)]).toArray⟩ := ⟨_, rfl⟩
  have hd3 : l3.data.toList = text [([32], .hour), ([58], .min), ([58], .sec)] := by rw [hl3]
  obtain ⟨l4, hl4⟩ : ∃ x : ByteArray, x = ⟨(text [([58], .min), ([58], .sec)]).toArray⟩ := ⟨_, rfl⟩
  have hd4 : l4.data.toList = text [([58], .min), ([58], .sec)] := by rw [hl4]
  obtain ⟨l5, hl5⟩ : ∃ x : ByteArray, x = ⟨(text [([58], .sec)]).toArray⟩ := ⟨_, rfl⟩
  have hd5 : l5.data.toList = text [([58], .sec)] := by rw [hl5]
  have en0 : l0.toList.isEmpty = false := by rw [Lib.toList_data, hl0]; decide
  have z0 : l0.size ≤ 60 := by rw [text_size l0 (layC 1) hl0]; decide
  have C0 : Hid (∀ W, Tabs W → Calls Tryd.prog 35 #[.string l0] W fun e w' => e = .returned (.tuple #[.string pe, .int .i64 262, .string l1]) ∧ Below W.heap.size W w') := Lib.hid fun W hW => chunk_named [] .mon (text [([32], .jan), ([32], .under), ([32], .hour), ([58], .min), ([58], .sec)]) (by decide) l0 pe l1 hpe hl1 hl0 z0 262 rfl W hW
  have en1 : l1.toList.isEmpty = false := by rw [Lib.toList_data, hd1]; decide
  have z1 : l1.size ≤ 60 := by rw [text_size l1 [([32], .jan), ([32], .under), ([32], .hour), ([58], .min), ([58], .sec)] hd1]; decide
  have C1 : Hid (∀ W, Tabs W → Calls Tryd.prog 35 #[.string l1] W fun e w' => e = .returned (.tuple #[.string ps, .int .i64 258, .string l2]) ∧ Below W.heap.size W w') := Lib.hid fun W hW => chunk_named [32] .jan (text [([32], .under), ([32], .hour), ([58], .min), ([58], .sec)]) (by decide) l1 ps l2 hps hl2 hd1 z1 258 rfl W hW
  have en2 : l2.toList.isEmpty = false := by rw [Lib.toList_data, hd2]; decide
  have z2 : l2.size ≤ 60 := by rw [text_size l2 [([32], .under), ([32], .hour), ([58], .min), ([58], .sec)] hd2]; decide
  have C2 : Hid (∀ W, Tabs W → Calls Tryd.prog 35 #[.string l2] W fun e w' => e = .returned (.tuple #[.string ps, .int .i64 264, .string l3]) ∧ Below W.heap.size W w') := Lib.hid fun W hW => chunk_named [32] .under (text [([32], .hour), ([58], .min), ([58], .sec)]) (by decide) l2 ps l3 hps hl3 hd2 z2 264 rfl W hW
  have en3 : l3.toList.isEmpty = false := by rw [Lib.toList_data, hd3]; decide
  have z3 : l3.size ≤ 60 := by rw [text_size l3 [([32], .hour), ([58], .min), ([58], .sec)] hd3]; decide
  have C3 : Hid (∀ W, Tabs W → Calls Tryd.prog 35 #[.string l3] W fun e w' => e = .returned (.tuple #[.string ps, .int .i64 1036, .string l4]) ∧ Below W.heap.size W w') := Lib.hid fun W hW => chunk_named [32] .hour (text [([58], .min), ([58], .sec)]) (by decide) l3 ps l4 hps hl4 hd3 z3 1036 rfl W hW
  have en4 : l4.toList.isEmpty = false := by rw [Lib.toList_data, hd4]; decide
  have z4 : l4.size ≤ 60 := by rw [text_size l4 [([58], .min), ([58], .sec)] hd4]; decide
  have C4 : Hid (∀ W, Tabs W → Calls Tryd.prog 35 #[.string l4] W fun e w' => e = .returned (.tuple #[.string pc, .int .i64 1040, .string l5]) ∧ Below W.heap.size W w') := Lib.hid fun W hW => chunk_named [58] .min (text [([58], .sec)]) (by decide) l4 pc l5 hpc hl5 hd4 z4 1040 rfl W hW
  have en5 : l5.toList.isEmpty = false := by rw [Lib.toList_data, hd5]; decide
  have z5 : l5.size ≤ 60 := by rw [text_size l5 [([58], .sec)] hd5]; decide
  have C5 : Hid (∀ W, Tabs W → Calls Tryd.prog 35 #[.string l5] W fun e w' => e = .returned (.tuple #[.string pc, .int .i64 1042, .string ⟨#[]⟩]) ∧ Below W.heap.size W w') := Lib.hid fun W hW => chunk_named [58] .sec (text []) (by decide) l5 pc ⟨#[]⟩ hpc rfl hd5 z5 1042 rfl W hW
  clear hB hT E hBuf hl0 hpe hps hpc hl1 hd1 hl2 hd2 hl3 hd3 hl4 hd4 hl5 hd5 z0 z1 z2 z3 z4 z5
  have eN0 := Lib.hid en0
  have eN1 := Lib.hid en1
  have eN2 := Lib.hid en2
  have eN3 := Lib.hid en3
  have eN4 := Lib.hid en4
  have eN5 := Lib.hid en5
  unfold timeV at *
  go_enter Tryd.func22, Tryd.ntmps22
  go_wp2_with (first
    | (go_at_call 27; refine (HE.out.loc _).mono ?_; rintro e wL ⟨rfl, hbL⟩)
    | (go_at_call 28; refine (HE.out.days _).mono ?_; rintro e w' ⟨rfl, rfl⟩))
  have S0 := Lib.hid (HS0.out wL hbL)
  clear hbL
  refine wp_loop_rounds 7 ?_
  rw [rounds_succ]
  go_wp2_with (first
    | (go_at_call 35; refine (C0.out _ (HT.out.below (St.below S0.out HB.out hb0))).mono ?_; rintro e v0 ⟨rfl, hv0⟩; have A0 : Hid ((St b N s F mm (layC 1) (w.alloc (timeC S F off)) ([] ++ (shown N s F mm .mon ++ render N s F mm [([32], .jan), ([32], .under), ([32], .hour), ([58], .min), ([58], .sec)])) (0) v0)) := Lib.hid (St.step S0.out hv0); clear hv0; obtain ⟨a0, b0⟩ := A0.out; have B0 := Lib.hid b0; clear b0)
    | (go_at_call 29; refine (HE.out.date _).mono ?_; rintro e w' ⟨rfl, rfl⟩)
    | (go_at_call 38; refine (HE.out.week _).mono ?_; rintro e w' ⟨rfl, rfl⟩))
  have D0 : Hid ((St b N s F mm (layC 1) (w.alloc (timeC S F off)) (shown N s F mm .mon ++ render N s F mm [([32], .jan), ([32], .under), ([32], .hour), ([58], .min), ([58], .sec)]) (0) v0)) := A0
  obtain ⟨ga0, ha0⟩ := D0.out
  have Ga0 := Lib.hid ha0
  clear ha0
  go_wp2_with (first
    | (go_at_call 39; refine (HE.out.dayn _ (HT.out.below (St.below D0.out HB.out hb0))).mono ?_; rintro e w' ⟨rfl, rfl⟩)
    | (at_builtin; refine Lib.wpList_append_run _ rfl _ _ 43 9 rfl _ _ rfl rfl _ _ (buf_text Ga0.out.2.1 d3 (shown N s F mm .mon) 3 HE.out.mon (shown3 N s F mm .mon (by simp)) (by omega)) ?_))
  have S1 : Hid ((St b N s F mm (layC 1) (w.alloc (timeC S F off)) (render N s F mm [([32], .jan), ([32], .under), ([32], .hour), ([58], .min), ([58], .sec)]) (3) (v0.setCells b (0) (List.map byteV (shown N s F mm .mon))))) := Lib.hid (St.cells (k := 3) (shown3 N s F mm .mon (by simp)) Ga0.out.1 Ga0.out.2.2.1 Ga0.out.2.2.2 Ga0.out.2.1 (Keeps.refl _ _) (by omega))
  rw [rounds_succ]
  go_wp2_with (first
    | (go_at_call 35; refine (C1.out _ (HT.out.below (St.below S1.out HB.out hb0))).mono ?_; rintro e v1 ⟨rfl, hv1⟩; have A1 : Hid ((St b N s F mm (layC 1) (w.alloc (timeC S F off)) ([32] ++ (shown N s F mm .jan ++ render N s F mm [([32], .under), ([32], .hour), ([58], .min), ([58], .sec)])) (3) v1)) := Lib.hid (St.step S1.out hv1); clear hv1; obtain ⟨a1, b1⟩ := A1.out; have B1 := Lib.hid b1; clear b1)
    | (go_at_call 29; refine (HE.out.date _).mono ?_; rintro e w' ⟨rfl, rfl⟩)
    | (at_builtin; refine Lib.wpList_append_run _ rfl _ _ 43 9 rfl _ _ rfl rfl _ _ (buf_text B1.out.2.1 ps [32] 1 Hps.out rfl (by omega)) ?_))
  have D1 : Hid ((St b N s F mm (layC 1) (w.alloc (timeC S F off)) (shown N s F mm .jan ++ render N s F mm [([32], .under), ([32], .hour), ([58], .min), ([58], .sec)]) (4) (v1.setCells b (3) (List.map byteV [32])))) := Lib.hid (St.cells (k := 1) rfl B1.out.1 B1.out.2.2.1 B1.out.2.2.2 B1.out.2.1 (Keeps.refl _ _) (by omega))
  obtain ⟨ga1, ha1⟩ := D1.out
  have Ga1 := Lib.hid ha1
  clear ha1
  go_wp2_with (first
    | (go_at_call 37; refine (HE.out.month _ (HT.out.below (St.below D1.out HB.out hb0))).mono ?_; rintro e w' ⟨rfl, rfl⟩)
    | (at_builtin; refine Lib.wpList_append_run _ rfl _ _ 43 9 rfl _ _ rfl rfl _ _ (buf_text Ga1.out.2.1 m3 (shown N s F mm .jan) 3 HE.out.jan (shown3 N s F mm .jan (by simp)) (by omega)) ?_))
  have S2 : Hid ((St b N s F mm (layC 1) (w.alloc (timeC S F off)) (render N s F mm [([32], .under), ([32], .hour), ([58], .min), ([58], .sec)]) (7) ((v1.setCells b (3) (List.map byteV [32])).setCells b (4) (List.map byteV (shown N s F mm .jan))))) := Lib.hid (St.cells (k := 3) (shown3 N s F mm .jan (by simp)) Ga1.out.1 Ga1.out.2.2.1 Ga1.out.2.2.2 Ga1.out.2.1 (Keeps.refl _ _) (by omega))
  rw [rounds_succ]
  go_wp2_with (first
    | (go_at_call 35; refine (C2.out _ (HT.out.below (St.below S2.out HB.out hb0))).mono ?_; rintro e v2 ⟨rfl, hv2⟩; have A2 : Hid ((St b N s F mm (layC 1) (w.alloc (timeC S F off)) ([32] ++ (shown N s F mm .under ++ render N s F mm [([32], .hour), ([58], .min), ([58], .sec)])) (7) v2)) := Lib.hid (St.step S2.out hv2); clear hv2; obtain ⟨a2, b2⟩ := A2.out; have B2 := Lib.hid b2; clear b2)
    | (go_at_call 29; refine (HE.out.date _).mono ?_; rintro e w' ⟨rfl, rfl⟩)
    | (at_builtin; refine Lib.wpList_append_run _ rfl _ _ 43 9 rfl _ _ rfl rfl _ _ (buf_text B2.out.2.1 ps [32] 1 Hps.out rfl (by omega)) ?_)
    | (at_builtin; have D2 : Hid ((St b N s F mm (layC 1) (w.alloc (timeC S F off)) (shown N s F mm .under ++ render N s F mm [([32], .hour), ([58], .min), ([58], .sec)]) (8) (v2.setCells b (7) (List.map byteV [32])))) := Lib.hid (St.cells (k := 1) rfl B2.out.1 B2.out.2.2.1 B2.out.2.2.2 B2.out.2.1 (Keeps.refl _ _) (by omega)); obtain ⟨ga2, ha2⟩ := D2.out; have Ga2 := Lib.hid ha2; clear ha2; refine Lib.wpList_append_run _ rfl _ _ 43 43 rfl _ _ rfl rfl _ _ (buf_append (m := [32]) (Ga2.out.2.1.alloc _) rfl (by omega) (new_cells _ _ _ rfl)) ?_))
  have U2 : Hid ((St b N s F mm (layC 1) (w.alloc (timeC S F off)) (digs D.toNat ++ render N s F mm [([32], .hour), ([58], .min), ([58], .sec)]) (9) (((v2.setCells b (7) (List.map byteV [32])).alloc (.cells #[.int .u8 32] 5)).setCells b (8) (List.map byteV [32])))) := Lib.hid (St.cells (k := 1) rfl Ga2.out.1 Ga2.out.2.2.1 (by have h := Ga2.out.2.2.2; rw [← HU.out.1, List.append_assoc] at h; exact h) (Ga2.out.2.1.alloc _) ((Keeps.refl _ _).alloc _) (by omega))
  obtain ⟨gb2, hb2⟩ := U2.out
  have Gb2 := Lib.hid hb2
  clear hb2
  refine (int_none b (9) _ gb2 (by omega) (by omega) Gb2.out.1 (by omega) _ Gb2.out.2.1).mono ?_
  rintro e w3 hp
  obtain ⟨rfl, kS3⟩ := St.put (left := render N s F mm [([32], .hour), ([58], .min), ([58], .sec)]) (m := digs D.toNat) (k := 1) HU.out.2 Gb2.out.1 Gb2.out.2.2.1 Gb2.out.2.2.2 hp
  have S3 := Lib.hid kS3
  clear kS3
  go_wp2_with fail
  rw [rounds_succ]
  go_wp2_with (first
    | (go_at_call 35; refine (C3.out _ (HT.out.below (St.below S3.out HB.out hb0))).mono ?_; rintro e v3 ⟨rfl, hv3⟩; have A3 : Hid ((St b N s F mm (layC 1) (w.alloc (timeC S F off)) ([32] ++ (shown N s F mm .hour ++ render N s F mm [([58], .min), ([58], .sec)])) (10) v3)) := Lib.hid (St.step S3.out hv3); clear hv3; obtain ⟨a3, b3⟩ := A3.out; have B3 := Lib.hid b3; clear b3)
    | (go_at_call 31; refine (HE.out.clock _).mono ?_; rintro e w' ⟨rfl, rfl⟩)
    | (at_builtin; refine Lib.wpList_append_run _ rfl _ _ 43 9 rfl _ _ rfl rfl _ _ (buf_text B3.out.2.1 ps [32] 1 Hps.out rfl (by omega)) ?_))
  have D3 : Hid ((St b N s F mm (layC 1) (w.alloc (timeC S F off)) (shown N s F mm .hour ++ render N s F mm [([58], .min), ([58], .sec)]) (11) (v3.setCells b (10) (List.map byteV [32])))) := Lib.hid (St.cells (k := 1) rfl B3.out.1 B3.out.2.2.1 B3.out.2.2.2 B3.out.2.1 (Keeps.refl _ _) (by omega))
  obtain ⟨ga3, ha3⟩ := D3.out
  have Ga3 := Lib.hid ha3
  clear ha3
  refine (int_two b (11) _ ga3 (by omega) (by omega) Ga3.out.1 (by omega) _ Ga3.out.2.1).mono ?_
  rintro e w4 hp
  rw [HE.out.hour] at hp
  obtain ⟨rfl, kS4⟩ := St.put (left := render N s F mm [([58], .min), ([58], .sec)]) (m := shown N s F mm .hour) (k := 2) rfl Ga3.out.1 Ga3.out.2.2.1 (by simpa [List.append_assoc] using Ga3.out.2.2.2) hp
  have S4 := Lib.hid kS4
  clear kS4
  go_wp2_with fail
  rw [rounds_succ]
  go_wp2_with (first
    | (go_at_call 35; refine (C4.out _ (HT.out.below (St.below S4.out HB.out hb0))).mono ?_; rintro e v4 ⟨rfl, hv4⟩; have A4 : Hid ((St b N s F mm (layC 1) (w.alloc (timeC S F off)) ([58] ++ (shown N s F mm .min ++ render N s F mm [([58], .sec)])) (13) v4)) := Lib.hid (St.step S4.out hv4); clear hv4; obtain ⟨a4, b4⟩ := A4.out; have B4 := Lib.hid b4; clear b4)
    | (go_at_call 31; refine (HE.out.clock _).mono ?_; rintro e w' ⟨rfl, rfl⟩)
    | (at_builtin; refine Lib.wpList_append_run _ rfl _ _ 43 9 rfl _ _ rfl rfl _ _ (buf_text B4.out.2.1 pc [58] 1 Hpc.out rfl (by omega)) ?_))
  have D4 : Hid ((St b N s F mm (layC 1) (w.alloc (timeC S F off)) (shown N s F mm .min ++ render N s F mm [([58], .sec)]) (14) (v4.setCells b (13) (List.map byteV [58])))) := Lib.hid (St.cells (k := 1) rfl B4.out.1 B4.out.2.2.1 B4.out.2.2.2 B4.out.2.1 (Keeps.refl _ _) (by omega))
  obtain ⟨ga4, ha4⟩ := D4.out
  have Ga4 := Lib.hid ha4
  clear ha4
  refine (int_two b (14) _ ga4 (by omega) (by omega) Ga4.out.1 (by omega) _ Ga4.out.2.1).mono ?_
  rintro e w5 hp
  rw [HE.out.min] at hp
  obtain ⟨rfl, kS5⟩ := St.put (left := render N s F mm [([58], .sec)]) (m := shown N s F mm .min) (k := 2) rfl Ga4.out.1 Ga4.out.2.2.1 (by simpa [List.append_assoc] using Ga4.out.2.2.2) hp
  have S5 := Lib.hid kS5
  clear kS5
  go_wp2_with fail
  rw [rounds_succ]
  go_wp2_with (first
    | (go_at_call 35; refine (C5.out _ (HT.out.below (St.below S5.out HB.out hb0))).mono ?_; rintro e v5 ⟨rfl, hv5⟩; have A5 : Hid ((St b N s F mm (layC 1) (w.alloc (timeC S F off)) ([58] ++ (shown N s F mm .sec ++ render N s F mm [])) (16) v5)) := Lib.hid (St.step S5.out hv5); clear hv5; obtain ⟨a5, b5⟩ := A5.out; have B5 := Lib.hid b5; clear b5)
    | (go_at_call 31; refine (HE.out.clock _).mono ?_; rintro e w' ⟨rfl, rfl⟩)
    | (at_builtin; refine Lib.wpList_append_run _ rfl _ _ 43 9 rfl _ _ rfl rfl _ _ (buf_text B5.out.2.1 pc [58] 1 Hpc.out rfl (by omega)) ?_))
  have D5 : Hid ((St b N s F mm (layC 1) (w.alloc (timeC S F off)) (shown N s F mm .sec ++ render N s F mm []) (17) (v5.setCells b (16) (List.map byteV [58])))) := Lib.hid (St.cells (k := 1) rfl B5.out.1 B5.out.2.2.1 B5.out.2.2.2 B5.out.2.1 (Keeps.refl _ _) (by omega))
  obtain ⟨ga5, ha5⟩ := D5.out
  have Ga5 := Lib.hid ha5
  clear ha5
  refine (int_two b (17) _ ga5 (by omega) (by omega) Ga5.out.1 (by omega) _ Ga5.out.2.1).mono ?_
  rintro e w6 hp
  rw [HE.out.sec] at hp
  obtain ⟨rfl, kS6⟩ := St.put (left := render N s F mm []) (m := shown N s F mm .sec) (k := 2) rfl Ga5.out.1 Ga5.out.2.2.1 (by simpa [List.append_assoc] using Ga5.out.2.2.2) hp
  have S6 := Lib.hid kS6
  clear kS6
  go_wp2_with fail
  rw [rounds_succ]
  go_wp2_with fail
  go_ret
  exact St.done S6.out HB.out hb0
end Go.Proofs.YtggebombeflmhaaDoor
