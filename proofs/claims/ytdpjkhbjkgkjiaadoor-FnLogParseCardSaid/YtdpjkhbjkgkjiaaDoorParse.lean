import Derived.Test.YtdpjkhbjkgkjiaaDoorParseP
namespace Go.Proofs.YtdpjkhbjkgkjiaaDoor
open Go.RowKit

set_option maxRecDepth 100000 in
set_option maxHeartbeats 4000000 in
theorem parse_walk (s : ByteArray) (level great : Int) (hl0 : 0 ≤ level) (hl1 : level ≤ 255) (_hg0 : 0 ≤ great) (_hg1 : great ≤ 4294967295) (hs : ∀ b ∈ s.data.toList, b.toNat < 128) (hsz : s.size ≤ 20) (w : World) (hE : Errs w) :
    Calls Tryd.prog 3 #[.string s, .int .u8 level, .int .u32 great] w fun e w' => e = .returned (.bool true) ∧ Below w.heap.size w w' := by
  have HS := Lib.hid hs
  clear hs
  have HC := Lib.hid conv_bytes
  go_enter Tryd.func3, Tryd.ntmps3
  go_wp2
  go_loop [7] (fun i => ∃ k : Nat, k ≤ s.size ∧ i = .int .i64 k) (fun i => s.size - (intOf i).toNat)
  case atStart => exact ⟨0, Nat.zero_le _, rfl⟩
  case round =>
    obtain ⟨k, hk, rfl⟩ := hrel
    by_cases hlt : k < s.size
    · have hb : ((s[k].toNat : Nat) : Int) < 128 := Int.ofNat_lt.2 (HS.out _ (mem_of s k hlt))
      go_wp2
      go_round
      case rel => exact ⟨k + 1, by omega, by go_num⟩
      case measure => simp [intOf]; omega
    · go_upto_region 10 with fail
      go_cut [8] (fun n wc => ∃ (g cap : Nat), n = .slice (some ⟨g, 0, none⟩) (nameL (level % 7)).length cap ∧ BB wc g (nameL (level % 7)) ∧ w.heap.size ≤ g ∧ Below w.heap.size w wc)
      case first =>
        have hcase : level % 7 = 0 ∨ level % 7 = 1 ∨ level % 7 = 2 ∨ level % 7 = 3 ∨ level % 7 = 4 ∨ level % 7 = 5 ∨ level % 7 = 6 := by omega
        rcases hcase with h7 | h7 | h7 | h7 | h7 | h7 | h7
        all_goals
          have c1 := HC.out
          go_wp2
          go_meet
          exact named_block _ _ _ _ _ _ (by rw [h7]; decide +kernel) (by rw [h7]; decide +kernel)
      case rest =>
        obtain ⟨g, cap, rfl, hbb, hg, hB⟩ := hcut
        have H := Lib.hid (⟨hbb, hg, hB⟩ : _ ∧ _ ∧ _)
        clear hbb hg hB
        go_wp2_with fail
        have hj0 : 0 ≤ level % 7 := by omega
        have hj1 : level % 7 < 7 := by omega
        have hL := name_len hj0 hj1
        go_loopw [42] (fun i wr => ∃ (k : Nat) (m : List UInt8), k ≤ (nameL (level % 7)).length ∧ i = .int .i64 k ∧ m.length = (nameL (level % 7)).length ∧ BB wr g m ∧ lowL m = nameL (level % 7) ∧ (∀ i, k ≤ i → m[i]? = (nameL (level % 7))[i]?) ∧ Below w.heap.size w wr) (fun i _ => (nameL (level % 7)).length - (intOf i).toNat)
        case atStart => exact ⟨0, nameL (level % 7), Nat.zero_le _, rfl, rfl, H.out.1, name_low hj0 hj1, fun _ _ => rfl, H.out.2.2⟩
        case round =>
          obtain ⟨k2, m, hk2, rfl, hm, hbb, hlow, hrest, hB⟩ := hrel
          have HM := Lib.hid (⟨hm, hbb, hlow, hrest, hB⟩ : _ ∧ _ ∧ _ ∧ _ ∧ _)
          by_cases hlt2 : k2 < (nameL (level % 7)).length
          · have hkm : k2 < m.length := by omega
            have hcell := hbb.cell k2 hkm
            have hfr := hbb.frozen k2 hkm
            have hmem : m[k2] ∈ nameL (level % 7) := by
              have := hrest k2 (Nat.le_refl _)
              rw [List.getElem?_eq_getElem hkm] at this
              exact List.mem_of_getElem? this.symm
            obtain ⟨hb1, hb2⟩ := name_small hj0 hj1 _ hmem
            have hb1' : 97 ≤ ((m[k2].toNat : Nat) : Int) := by omega
            have hb2' : ((m[k2].toNat : Nat) : Int) ≤ 122 := by omega
            clear hm hbb hlow hrest hB hmem
            go_wp2
            · go_roundw
              case rel =>
                obtain ⟨hm, hbb, hlow, hrest, hB⟩ := HM.out
                have h32 : (m[k2] - 32).toNat = m[k2].toNat - 32 := by
                  rw [UInt8.toNat_sub_of_le]
                  · rfl
                  · rw [UInt8.le_iff_toNat_le]; show 32 ≤ _; omega
                refine ⟨k2 + 1, m.set k2 (m[k2] - 32), by omega, by go_num, by simpa using hm, hbb.set k2 _ _ (by rw [h32]; omega) hkm, low_great hlow hkm hb1 hb2, fun i hi => ?_, hB.setCell (by exact H.out.2.1) _⟩
                rw [List.getElem?_set_ne (by omega)]
                exact hrest i (by omega)
              case measure => simp [intOf]; omega
            · go_roundw
              case rel =>
                obtain ⟨hm, hbb, hlow, hrest, hB⟩ := HM.out
                exact ⟨k2 + 1, m, by omega, by go_num, hm, hbb, hlow, fun i hi => hrest i (by omega), hB⟩
              case measure => simp [intOf]; omega
          · have hk2' : k2 = (nameL (level % 7)).length := by omega
            have HK := Lib.hid hk2'
            have c2 := conv_string hbb (nameL (level % 7)).length cap hm
            clear hm hbb hlow hrest hB hk2'
            go_wp2_with fail
            have hz : (⟨m.toArray⟩ : ByteArray).size ≤ 1000 := by
              show m.toArray.size ≤ 1000
              have := HM.out.1
              simp
              omega
            refine (level_any ⟨m.toArray⟩ (low_ascii HM.out.2.2.1 (name_small hj0 hj1)) hz w _ HM.out.2.2.2.2 hE).mono ?_
            have hpar : parseL ⟨m.toArray⟩ = some (level % 7 - 1) := by
              rw [parseL_head]
              show (match headL (lowL m) with | some n => some n | none => parseN ⟨m.toArray⟩) = _
              rw [HM.out.2.2.1, head_name hj0 hj1]
            have HP := Lib.hid hpar
            clear hpar c2 hz
            rintro e w1 ⟨⟨n, hn, rfl⟩ | ⟨hn, rfl⟩, hb1⟩
            · obtain rfl : n = level % 7 - 1 := by rw [HP.out] at hn; injection hn with hn; exact hn.symm
              clear hn HP
              go_wp2_with fail
              refine (level_any s HS.out (by omega) w _ hb1 hE).mono ?_
              rintro e w2 ⟨⟨n, hn, rfl⟩ | ⟨hn, rfl⟩, hb2⟩
              · have HN := Lib.hid hn
                clear hn
                have c1 := HC.out s
                have hBB := BB.conv w2 s
                have hB3 := hb2.trans (Joins.below_bytesWorld w.heap.size w2 5 s hb2.size)
                have hg2 := hb2.size
                have H2 := Lib.hid (⟨hBB, hB3, hg2⟩ : _ ∧ _ ∧ _)
                clear hBB hB3 hg2
                go_wp2_with fail
                go_loopw [15, 87] (fun q i wr => ∃ k : Nat, k ≤ s.size ∧ i = .int .i64 k ∧ q = .bool (numTo s.data.toList k) ∧ BB wr w2.heap.size (lowTo s.data.toList k) ∧ Below w.heap.size w wr) (fun _ i _ => s.size - (intOf i).toNat)
                case atStart => exact ⟨0, Nat.zero_le _, rfl, congrArg Value.bool (isEmpty_eq s), by rw [lowTo_zero]; exact H2.out.1, H2.out.2.1⟩
                case round =>
                  obtain ⟨k3, hk3, rfl, rfl, hbb, hB⟩ := hrel
                  have HM := Lib.hid (⟨hbb, hB⟩ : _ ∧ _)
                  by_cases hlt3 : k3 < s.size
                  · have hl3 : k3 < s.data.toList.length := by simpa using hlt3
                    have hl3' : k3 < (lowTo s.data.toList k3).length := by rw [lowTo_length]; exact hl3
                    have hcell := hbb.cell k3 hl3'
                    rw [lowTo_get _ _ hl3] at hcell
                    have hfr := hbb.frozen k3 hl3'
                    clear hbb hB
                    obtain ⟨b, hb⟩ : ∃ b, b = s.data.toList[k3] := ⟨_, rfl⟩
                    have HB := Lib.hid hb
                    rw [← hb] at hcell
                    clear hb
                    have hb0 : (0 : Int) ≤ (b.toNat : Int) := by omega
                    have hb1 : ((b.toNat : Nat) : Int) < 256 := by have := b.toNat_lt; omega
                    have hq : numTo s.data.toList (k3 + 1) = (numTo s.data.toList k3 && ((decide (48 ≤ b.toNat) && decide (b.toNat ≤ 57)) || (k3 == 0 && (b.toNat == 45 || b.toNat == 43)))) := by
                      have e : s.data.toList[k3]? = some b := by rw [List.getElem?_eq_getElem hl3, HB.out]
                      show (numTo s.data.toList k3 && numAt s.data.toList k3) = _
                      unfold numAt
                      rw [e]
                    have HQ := Lib.hid hq
                    have hlow : (65 ≤ b.toNat ∧ b.toNat ≤ 90 ∧ (b.toNat : Int) + 32 = ((low8 b).toNat : Int)) ∨ (¬ (65 ≤ b.toNat ∧ b.toNat ≤ 90) ∧ low8 b = b) := by
                      unfold low8
                      by_cases hc : 65 ≤ b.toNat ∧ b.toNat ≤ 90
                      · left
                        rw [if_pos hc]
                        refine ⟨hc.1, hc.2, ?_⟩
                        rw [UInt8.toNat_add]
                        have : (32 : UInt8).toNat = 32 := rfl
                        omega
                      · right
                        exact ⟨hc, if_neg hc⟩
                    have HLO := Lib.hid hlow
                    clear hq hlow
                    rcases Nat.eq_zero_or_pos k3 with rfl | hpos
                    · go_wp2
                      all_goals
                        go_roundw
                        case rel =>
                          refine ⟨0 + 1, by omega, by go_num, congrArg Value.bool ?_, ?_, ?_⟩
                          · rw [HQ.out]
                            first
                              | (have hn : numTo s.data.toList 0 = true := by assumption
                                 rw [hn])
                              | (have hn : ¬ numTo s.data.toList 0 = true := by assumption
                                 rw [Bool.not_eq_true] at hn
                                 rw [hn])
                            rw [Bool.eq_iff_iff]
                            first | (simp; done) | (simp; omega)
                          · first
                              | (rcases HLO.out with ⟨_, _, h3⟩ | ⟨h3, _⟩
                                 · have := HM.out.1.set 0 (low8 b) _ h3 hl3'
                                   have e := lowTo_step s.data.toList 0 hl3
                                   rw [← HB.out] at e
                                   rw [← e]
                                   exact this
                                 · exact absurd (by omega) h3)
                              | (rcases HLO.out with ⟨h1, h2, _⟩ | ⟨_, h3⟩
                                 · exfalso; omega
                                 · have e := lowTo_same s.data.toList 0 hl3 (by rw [← HB.out]; exact h3)
                                   rw [← e]
                                   exact HM.out.1)
                          · first | exact HM.out.2 | exact HM.out.2.setCell (by exact H2.out.2.2) _
                        case measure => simp [intOf]; omega
                    · have hk0 : ((k3 : Int) == 0) = false := by simp; omega
                      go_wp2
                      all_goals
                        go_roundw
                        case rel =>
                          refine ⟨k3 + 1, by omega, by go_num, congrArg Value.bool ?_, ?_, ?_⟩
                          · rw [HQ.out]
                            first
                              | (have hn : numTo s.data.toList k3 = true := by assumption
                                 rw [hn])
                              | (have hn : ¬ numTo s.data.toList k3 = true := by assumption
                                 rw [Bool.not_eq_true] at hn
                                 rw [hn])
                            rw [Bool.eq_iff_iff]
                            first | (simp; done) | (simp; omega)
                          · first
                              | (rcases HLO.out with ⟨_, _, h3⟩ | ⟨h3, _⟩
                                 · have := HM.out.1.set k3 (low8 b) _ h3 hl3'
                                   have e := lowTo_step s.data.toList k3 hl3
                                   rw [← HB.out] at e
                                   rw [← e]
                                   exact this
                                 · exact absurd (by omega) h3)
                              | (rcases HLO.out with ⟨h1, h2, _⟩ | ⟨_, h3⟩
                                 · exfalso; omega
                                 · have e := lowTo_same s.data.toList k3 hl3 (by rw [← HB.out]; exact h3)
                                   rw [← e]
                                   exact HM.out.1)
                          · first | exact HM.out.2 | exact HM.out.2.setCell (by exact H2.out.2.2) _
                        case measure => simp [intOf]; omega
                  · have hk3' : k3 = s.data.toList.length := by simp; omega
                    have hzs : s.data.toList.length = s.size := by simp
                    rw [hk3', lowTo_all] at hbb
                    have hll : (lowL s.data.toList).length = s.size := by unfold lowL; simp
                    have cs := fun q : Nat => conv_string (hbb.below (below_drewN (Below.refl wr.heap.size wr) q) hbb.1) s.size (grownCap w2 s.size 0 5) hll
                    have hB' := Lib.hid hB
                    clear hbb hB hzs hll
                    rcases Bool.eq_false_or_eq_true (numTo s.data.toList k3) with hnum | hnum
                    · clear hk3'
                      go_upto_region 32 with fail
                      go_quiet (fail)
                      go_wp2
                      go_ret
                      exact ⟨rfl, below_drewN hB'.out _⟩
                    · have hd : headL (lowL s.data.toList) = some n := by
                        have h1 := HN.out
                        rw [parseL_head] at h1
                        cases hh : headL (lowL s.data.toList) with
                        | some x =>
                          rw [hh] at h1
                          exact h1
                        | none =>
                          rw [hh] at h1
                          have := numTo_of_parse h1 k3
                          rw [this] at hnum
                          cases hnum
                      obtain ⟨hn1, hn2, hn3⟩ := name_of_head hd
                      have hn4 : lname n = ⟨(lowL s.data.toList).toArray⟩ := by rw [← hn3]
                      have cn : ∀ W : World, Calls Tryd.prog 9 #[.int .i64 n] W fun e w' => e = .returned (.string ⟨(lowL s.data.toList).toArray⟩) ∧ w' = W := by
                        intro W
                        rw [← hn4]
                        exact (name_any n hn1 hn2 W).mono fun e w' ⟨he, hw⟩ => ⟨he, hw.symm⟩
                      have CN := Lib.hid cn
                      clear hd hn3 hn4 cn hn1 hn2 hk3'
                      go_upto_region 32 with fail
                      go_quiet ((go_at_call 9; exact Calls.quiet_of_same (CN.out _)))
                      go_wp2
                      go_ret
                      exact ⟨rfl, below_drewN hB'.out _⟩
              · have HN := Lib.hid hn
                clear hn
                go_wp2_with fail
                refine (awake_any w _ hb2 hE).mono ?_
                rintro e w3 ⟨rfl, hb3⟩
                go_wp2
                go_ret
                exact ⟨rfl, hb3⟩
            · rw [HP.out] at hn
              cases hn
end Go.Proofs.YtdpjkhbjkgkjiaaDoor
