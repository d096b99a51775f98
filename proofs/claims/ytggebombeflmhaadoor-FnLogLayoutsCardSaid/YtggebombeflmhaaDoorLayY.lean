/- FnLogLayouts: the law's walk. -/
import Derived.Test.YtggebombeflmhaaDoorLayRa
import Derived.Test.YtggebombeflmhaaDoorLayRb
import Derived.Test.YtggebombeflmhaaDoorLayRc
import Derived.Test.YtggebombeflmhaaDoorLayRd
import Derived.Test.YtggebombeflmhaaDoorLayRe
import Derived.Test.YtggebombeflmhaaDoorLayRf
import Derived.Test.YtggebombeflmhaaDoorLayRg
import Derived.Test.YtggebombeflmhaaDoorLayRh
import Derived.Test.YtggebombeflmhaaDoorLayRi
import Derived.Test.YtggebombeflmhaaDoorLayRj
import Derived.Test.YtggebombeflmhaaDoorLayRk
import Derived.Test.YtggebombeflmhaaDoorLayW
import Derived.Test.YtggebombeflmhaaDoorRefE
import Derived.Test.YtggebombeflmhaaDoorLevC
namespace Go.Proofs.YtggebombeflmhaaDoor
open Go.RowKit

theorem layouts_at : ∀ (k : Nat), k < 11 → ∀ h, (#[.string ⟨#[77, 111, 110, 32, 74, 97, 110, 32, 95, 50, 32, 49, 53, 58, 48, 52, 58, 48, 53, 32, 50, 48, 48, 54]⟩, .string ⟨#[77, 111, 110, 32, 74, 97, 110, 32, 95, 50, 32, 49, 53, 58, 48, 52, 58, 48, 53]⟩, .string ⟨#[48, 50, 32, 74, 97, 110, 32, 48, 54, 32, 49, 53, 58, 48, 52, 32, 45, 48, 55, 48, 48]⟩, .string ⟨#[77, 111, 110, 44, 32, 48, 50, 32, 74, 97, 110, 32, 50, 48, 48, 54, 32, 49, 53, 58, 48, 52, 58, 48, 53, 32, 45, 48, 55, 48, 48]⟩, .string ⟨#[51, 58, 48, 52, 80, 77]⟩, .string ⟨#[74, 97, 110, 32, 95, 50, 32, 49, 53, 58, 48, 52, 58, 48, 53]⟩, .string ⟨#[74, 97, 110, 32, 95, 50, 32, 49, 53, 58, 48, 52, 58, 48, 53, 46, 48, 48, 48]⟩, .string ⟨#[74, 97, 110, 32, 95, 50, 32, 49, 53, 58, 48, 52, 58, 48, 53, 46, 48, 48, 48, 48, 48, 48]⟩, .string ⟨#[50, 48, 48, 54, 45, 48, 49, 45, 48, 50, 32, 49, 53, 58, 48, 52, 58, 48, 53]⟩, .string ⟨#[50, 48, 48, 54, 45, 48, 49, 45, 48, 50]⟩, .string ⟨#[49, 53, 58, 48, 52, 58, 48, 53]⟩] : Array Value)[k]'h = .string (B (text (layC k))) := by
  intro k hk
  rcases (by omega : k = 0 ∨ k = 1 ∨ k = 2 ∨ k = 3 ∨ k = 4 ∨ k = 5 ∨ k = 6 ∨ k = 7 ∨ k = 8 ∨ k = 9 ∨ k = 10) with rfl | rfl | rfl | rfl | rfl | rfl | rfl | rfl | rfl | rfl | rfl <;> exact fun _ => rfl
theorem layouts_len (k : Nat) (hk : k < 11) : (B (text (layC k))).size ≤ 40 ∧ ((B (text (layC k))).toList == [50, 48, 48, 54, 45, 48, 49, 45, 48, 50, 84, 49, 53, 58, 48, 52, 58, 48, 53, 90, 48, 55, 58, 48, 48]) = false ∧ ((B (text (layC k))).toList == [50, 48, 48, 54, 45, 48, 49, 45, 48, 50, 84, 49, 53, 58, 48, 52, 58, 48, 53, 46, 57, 57, 57, 57, 57, 57, 57, 57, 57, 90, 48, 55, 58, 48, 48]) = false := by
  rw [Lib.toList_data]
  show (text (layC k)).toArray.size ≤ 40 ∧ (text (layC k) == _) = false ∧ (text (layC k) == _) = false
  rcases (by omega : k = 0 ∨ k = 1 ∨ k = 2 ∨ k = 3 ∨ k = 4 ∨ k = 5 ∨ k = 6 ∨ k = 7 ∨ k = 8 ∨ k = 9 ∨ k = 10) with rfl | rfl | rfl | rfl | rfl | rfl | rfl | rfl | rfl | rfl | rfl <;> decide

theorem into_any (k : Nat) (hk : k < 11) {N s F : Nat} {mm S off Y M D hh mi c wk A Dv : Int} {ms m3 ds d3 : ByteArray} (E : Env N s F mm S off Y M D hh mi c wk A Dv ms m3 ds d3) : Into S F off (B (text (layC k))) (render N s F mm (layC k)) := by
  intro w0 w b hB hT hb0 hbw hBuf
  rcases (by omega : k = 0 ∨ k = 1 ∨ k = 2 ∨ k = 3 ∨ k = 4 ∨ k = 5 ∨ k = 6 ∨ k = 7 ∨ k = 8 ∨ k = 9 ∨ k = 10) with rfl | rfl | rfl | rfl | rfl | rfl | rfl | rfl | rfl | rfl | rfl
  · rcases Int.lt_or_le D 10 with hd | hd
    · exact lay_0lt E hd _ rfl hB hT hb0 hbw hBuf
    · exact lay_0ge E hd _ rfl hB hT hb0 hbw hBuf
  · rcases Int.lt_or_le D 10 with hd | hd
    · exact lay_1lt E hd _ rfl hB hT hb0 hbw hBuf
    · exact lay_1ge E hd _ rfl hB hT hb0 hbw hBuf
  · rcases Int.lt_trichotomy mm 0 with hz | hz | hz
    · exact lay_2neg E hz _ rfl hB hT hb0 hbw hBuf
    · exact lay_2zer E (by omega) (by omega) _ rfl hB hT hb0 hbw hBuf
    · exact lay_2pos E hz _ rfl hB hT hb0 hbw hBuf
  · rcases Int.lt_trichotomy mm 0 with hz | hz | hz
    · exact lay_3neg E hz _ rfl hB hT hb0 hbw hBuf
    · exact lay_3zer E (by omega) (by omega) _ rfl hB hT hb0 hbw hBuf
    · exact lay_3pos E hz _ rfl hB hT hb0 hbw hBuf
  · by_cases hq : hh % 12 = 0
    · rcases Int.lt_or_le hh 12 with hp | hp
      · exact lay_4za E hq hp _ rfl hB hT hb0 hbw hBuf
      · exact lay_4zp E hq hp _ rfl hB hT hb0 hbw hBuf
    · rcases Int.lt_or_le hh 12 with hp | hp
      · exact lay_4na E hq hp _ rfl hB hT hb0 hbw hBuf
      · exact lay_4np E hq hp _ rfl hB hT hb0 hbw hBuf
  · rcases Int.lt_or_le D 10 with hd | hd
    · exact lay_5lt E hd _ rfl hB hT hb0 hbw hBuf
    · exact lay_5ge E hd _ rfl hB hT hb0 hbw hBuf
  · rcases Int.lt_or_le D 10 with hd | hd
    · exact lay_6lt E hd _ rfl hB hT hb0 hbw hBuf
    · exact lay_6ge E hd _ rfl hB hT hb0 hbw hBuf
  · rcases Int.lt_or_le D 10 with hd | hd
    · exact lay_7lt E hd _ rfl hB hT hb0 hbw hBuf
    · exact lay_7ge E hd _ rfl hB hT hb0 hbw hBuf
  · exact lay_8 E _ rfl hB hT hb0 hbw hBuf
  · exact lay_9 E _ rfl hB hT hb0 hbw hBuf
  · exact lay_10 E _ rfl hB hT hb0 hbw hBuf

theorem lmoment_any (S off mm : Int) (F k : Nat) (h0 : -4611686019 ≤ S) (h1 : S ≤ 4611686019) (hF : F < 1000000000) (hm0 : -840 ≤ mm) (hm1 : mm ≤ 840) (ho : off = 60 * mm) (hk : k < 11) (w0 w : World) (hB : Below w0.heap.size w0 w) (hT : Tabs w0) :
    Calls Tryd.prog 5 #[.int .i64 (1000000000 * S + F), .int .i64 off, .string (B (text (layC k)))] w fun e w' => e = .returned (.string (B (render (dayN S off) (secN S off) F mm (layC k)))) ∧ Below w0.heap.size w0 w' := by
  obtain ⟨Y, M, D, hh, mi, c, wk, A, Dv, ms, m3, ds, d3, E⟩ := env_of F mm S off h0 h1 hF hm0 hm1 ho
  obtain ⟨z40, r1, r2⟩ := layouts_len k hk
  have HI := Lib.hid (into_any k hk E)
  have HB := Lib.hid hB
  have HT := Lib.hid hT
  obtain ⟨out, hout⟩ : ∃ out, out = render (dayN S off) (secN S off) F mm (layC k) := ⟨_, rfl⟩
  have HF : Hid (∀ W, Below w0.heap.size w0 W → Calls Tryd.prog 9 #[timeV S F off, .string (B (text (layC k)))] W fun e w' => e = .returned (.string (B out)) ∧ Below w0.heap.size w0 w') := Lib.hid fun W hW => by rw [hout]; exact format_text HI.out r1 r2 z40 w0 W hW HT.out
  have HM : Hid (∀ W, Below w0.heap.size w0 W → Calls Tryd.prog 8 #[.int .i64 (1000000000 * S + F), .int .i64 off] W fun e w' => e = .returned (timeV S F off) ∧ Below w0.heap.size w0 w') := Lib.hid fun W hW => moment_any S F off h0 h1 (by omega) (by omega) w0 W hW
  obtain ⟨str, hstr⟩ : ∃ str, str = B (text (layC k)) := ⟨_, rfl⟩
  obtain ⟨ob, hob⟩ : ∃ ob, ob = B out := ⟨_, rfl⟩
  obtain ⟨tv, htv⟩ : ∃ tv, tv = timeV S F off := ⟨_, rfl⟩
  obtain ⟨ns, hns⟩ : ∃ ns, ns = 1000000000 * S + (F : Int) := ⟨_, rfl⟩
  rw [← hstr, ← hob, ← htv] at HF
  rw [← hns, ← htv] at HM
  rw [← hout, ← hstr, ← hob, ← hns]
  clear E z40 r1 r2 HI hB hT hout hstr hob htv hns ho
  go_enter Tryd.func5, Tryd.ntmps5
  go_wp2_with (first
    | (go_at_call 8; refine (HM.out _ HB.out).mono ?_; rintro e v1 ⟨rfl, hv1⟩; have B1 := Lib.hid hv1; clear hv1)
    | (go_at_call 9; refine (HF.out _ B1.out).mono ?_; rintro e v2 ⟨rfl, hv2⟩; have B2 := Lib.hid hv2; clear hv2))
  go_ret
  exact ⟨rfl, B2.out⟩

set_option maxRecDepth 100000 in
set_option maxHeartbeats 1000000 in
theorem layouts_any (ns mm wh : Int) (hn0 : -9223372036854775808 ≤ ns) (hn1 : ns ≤ 9223372036854775807) (hm0 : -32768 ≤ mm) (hm1 : mm ≤ 32767) (hw0 : 0 ≤ wh) (hw1 : wh ≤ 255) (w : World) (hT : Tabs w) (hE : Errs w) :
    Calls Tryd.prog 3 #[.int .i64 ns, .int .i16 mm, .int .u8 wh] w fun e w' => e = .returned (.bool true) ∧ Below w.heap.size w w' := by
  have HT := Lib.hid hT
  have HE := Lib.hid hE
  clear hT hE
  by_cases ha : mm < -840
  · go_enter Tryd.func3, Tryd.ntmps3
    go_wp2
    go_ret
    exact ⟨rfl, Below.refl _ _⟩
  by_cases hb : 840 < mm
  · go_enter Tryd.func3, Tryd.ntmps3
    go_wp2
    go_ret
    exact ⟨rfl, Below.refl _ _⟩
  by_cases hc : ns < -4611686018427387904
  · go_enter Tryd.func3, Tryd.ntmps3
    go_wp2
    go_ret
    exact ⟨rfl, Below.refl _ _⟩
  by_cases hd : 4611686018427387904 < ns
  · go_enter Tryd.func3, Tryd.ntmps3
    go_wp2
    go_ret
    exact ⟨rfl, Below.refl _ _⟩
  obtain ⟨S, hS⟩ : ∃ S : Int, S = ns / 1000000000 := ⟨_, rfl⟩
  obtain ⟨F, hF⟩ : ∃ F : Nat, (F : Int) = ns % 1000000000 := ⟨(ns % 1000000000).toNat, by omega⟩
  have hns : ns = 1000000000 * S + F := by omega
  obtain ⟨k, hk⟩ : ∃ k : Nat, (k : Int) = wh % 11 := ⟨(wh % 11).toNat, by omega⟩
  have hk11 : k < 11 := by omega
  obtain ⟨off, hoff⟩ : ∃ off : Int, off = 60 * mm := ⟨_, rfl⟩
  have eo : mm * 60 = off := by omega
  have ek : wh % 11 = k := hk.symm
  have hat := layouts_at k hk11
  obtain ⟨str, hstr⟩ : ∃ str, str = B (text (layC k)) := ⟨_, rfl⟩
  obtain ⟨out, hout⟩ : ∃ out, out = B (render (dayN S off) (secN S off) F mm (layC k)) := ⟨_, rfl⟩
  have H5 : Hid (∀ W, Below w.heap.size w W → Calls Tryd.prog 5 #[.int .i64 ns, .int .i64 off, .string str] W fun e w' => e = .returned (.string out) ∧ Below w.heap.size w w') := Lib.hid fun W hW => by
    rw [hstr, hout, hns]
    exact lmoment_any S off mm F k (by omega) (by omega) (by omega) (by omega) (by omega) hoff hk11 w W hW HT.out
  have H6 : Hid (∀ W, Below w.heap.size w W → Calls Tryd.prog 6 #[.int .i64 ns, .int .i64 off, .int .i64 k] W fun e w' => e = .returned (.string out) ∧ Below w.heap.size w w') := Lib.hid fun W hW => by
    rw [hout, hns]
    exact laid_any S off mm F k (by omega) (by omega) (by omega) (by omega) (by omega) hoff hk11 w W hW
  rw [← hstr] at hat
  have hq : (out.toList == out.toList) = true := by simp
  clear hS hF hns hk hoff hstr hout
  go_enter Tryd.func3, Tryd.ntmps3
  go_wp2_with (first
    | (go_at_call 4; go_in)
    | (go_at_call 5; refine (H5.out _ ((Below.refl _ _).alloc (Nat.le_refl _) _)).mono ?_; rintro e v1 ⟨rfl, hv1⟩; have B1 := Lib.hid hv1; clear hv1)
    | (go_at_call 6; refine (H6.out _ B1.out).mono ?_; rintro e v2 ⟨rfl, hv2⟩; have B2 := Lib.hid hv2; clear hv2)
    | (go_at_call 7; refine (awake_any w _ B2.out HE.out).mono ?_; rintro e v3 ⟨rfl, hv3⟩; have B3 := Lib.hid hv3; clear hv3))
  go_ret
  exact ⟨rfl, B3.out⟩
end Go.Proofs.YtggebombeflmhaaDoor
