/- A JSON number without an exponent is read. -/
import Derived.Test.YtnfddblpenninaaDoorMgE
import Derived.Lib.Strings
namespace Go.Proofs.YtnfddblpenninaaDoor
open Go.RowKit

set_option maxRecDepth 10000 in
theorem byte_at (s : ByteArray) (l : List UInt8) (h : s.data.toList = l) (i : Nat) (hi : i < l.length) : ∀ W, (Instr.index 9 (.string s) (.int .i64 (i : Int))).run Tryd.prog W = .ok (.int .u8 (l[i].toNat : Int)) W := fun W => by
  subst h
  have hs : i < s.size := by simpa using hi
  rw [run_index_string W 9 s .i64 (i : Int) rfl, dif_pos ⟨by omega, by omega⟩]
  simp
  rfl
theorem ba_ext {s t : ByteArray} (h : s.data.toList = t.data.toList) : s = t := by
  cases s; cases t
  simp only [ByteArray.mk.injEq]
  exact Array.toList_inj.1 h
theorem size_of {s : ByteArray} {l : List UInt8} (h : s.data.toList = l) : s.size = l.length := by rw [← h]; simp
def signed (neg : Bool) (l : List UInt8) : List UInt8 := if neg then 45 :: l else l
theorem signed_no {s : ByteArray} {l : List UInt8} (h : s.data.toList = signed false l) : s = ⟨l.toArray⟩ := ba_ext (by rw [h]; rfl)
theorem signed_yes {s : ByteArray} {l : List UInt8} (h : s.data.toList = signed true l) : s.extract 1 s.size = ⟨l.toArray⟩ := by
  refine ba_ext ?_
  have hz : s.size = (signed true l).length := by rw [← h]; simp
  rw [Lib.extract_data, h, hz]
  simp [signed]

/-- The number that a text's digits are. -/
def stepD (a : Nat) (c : UInt8) : Nat := if c.toNat = 46 then a else a * 10 + (c.toNat - 48)
def stepC (a : Nat) (c : UInt8) : Nat := if c.toNat = 46 then a else a + 1
def numD (l : List UInt8) : Nat := l.foldl stepD 0
def cntD (l : List UInt8) : Nat := l.foldl stepC 0
theorem numD_take (l : List UInt8) (i : Nat) (h : i < l.length) : numD (l.take (i + 1)) = stepD (numD (l.take i)) l[i] := by
  rw [List.take_succ_eq_append_getElem h, numD, List.foldl_append]
  rfl
theorem cntD_take (l : List UInt8) (i : Nat) (h : i < l.length) : cntD (l.take (i + 1)) = stepC (cntD (l.take i)) l[i] := by
  rw [List.take_succ_eq_append_getElem h, cntD, List.foldl_append]
  rfl
/-- How many bytes stand behind the last point among the first k. -/
def behindD (l : List UInt8) : Nat → Nat
  | 0 => 0
  | k + 1 => if h : k < l.length then (if l[k].toNat = 46 then l.length - k - 1 else behindD l k) else behindD l k
theorem cnt_le (l : List UInt8) : ∀ i, i ≤ l.length → cntD (l.take i) ≤ i
  | 0, _ => by simp [cntD]
  | i + 1, h => by
    rw [cntD_take l i (by omega), stepC]
    have := cnt_le l i (by omega)
    split <;> omega
theorem behind_le (l : List UInt8) : ∀ k, behindD l k ≤ l.length
  | 0 => by simp [behindD]
  | k + 1 => by
    unfold behindD
    have := behind_le l k
    split
    · split <;> omega
    · exact this
/-- A text of digits and points. -/
def Plain (l : List UInt8) : Prop := ∀ c ∈ l, c.toNat = 46 ∨ (48 ≤ c.toNat ∧ c.toNat ≤ 57)
/-- What has been read before i. -/
def ReadD (w wr : World) (p : Option Addr) (k cp : Nat) (ys : List Nat) (l : List UInt8) (i : Nat) : Prop :=
  ys.length = k ∧ (NatAt wr p ys ∧ k ≤ cp) ∧ wval ys = numD (l.take i) ∧ k ≤ i ∧ Below w.heap.size w wr
/-- What is read. -/
def DecEnd (w : World) (neg : Bool) (l : List UInt8) (e : Ending) (w' : World) : Prop := ∃ (q : Option Addr) (c k : Nat) (ys : List Nat), e = .returned (.tuple #[.bool neg, .slice q k c, .int .i64 (-(behindD l l.length : Int)), .bool true]) ∧ ReadD w w' q k c ys l l.length

set_option maxRecDepth 100000 in
set_option maxHeartbeats 8000000 in
theorem decimal_walk (neg : Bool) (s : ByteArray) (l : List UInt8) (hs : s.data.toList = signed neg l) (hl : Plain l) (hn : l.length ≤ 1000) (hc0 : 0 < cntD l) (c0 : UInt8) (l' : List UInt8) (hlc : l = c0 :: l') (w : World) :
    Calls Tryd.prog 9 #[.string s] w (DecEnd w neg l) := by
  have hne : s.toList.isEmpty = false := by
    rw [Lib.toList_data, hs, hlc]
    cases neg <;> rfl
  have hc48 := hl c0 (by rw [hlc]; simp)
  have HS := Lib.hid hs
  have HL := Lib.hid (And.intro hl hc0)
  clear hl hc0
  go_enter Tryd.func9, Tryd.ntmps9
  go_upto_region 1 with fail
  go_cut [18] (fun q wc => q = .bool neg ∧ w = wc)
  case first =>
    cases neg
    · have hb : ∀ W, (Instr.index 9 (.string s) (.int .i64 0)).run Tryd.prog W = .ok (.int .u8 (c0.toNat : Int)) W := fun W => by
        have := byte_at s (signed false l) HS.out 0 (by rw [hlc]; simp [signed]) W
        simpa [signed, hlc] using this
      have hq : ((c0.toNat : Int) == 45) = false := by simp; omega
      clear hs hlc
      go_wp2_with fail
      go_meet
      exact ⟨congrArg Value.bool (by simp), rfl⟩
    · have hb : ∀ W, (Instr.index 9 (.string s) (.int .i64 0)).run Tryd.prog W = .ok (.int .u8 45) W := fun W => by
        have := byte_at s (signed true l) HS.out 0 (by simp [signed]) W
        simpa [signed] using this
      clear hs hlc
      go_wp2_with fail
      go_meet
      exact ⟨rfl, rfl⟩
  case rest =>
    obtain ⟨rfl, rfl⟩ := hcut
    clear hs hlc hne hc48
    go_upto_if 18 with fail
    go_cut [0, 2] (fun t b wc => t = .string ⟨l.toArray⟩ ∧ b = .bool neg ∧ Below w.heap.size w wc)
    case first =>
      cases neg
      · go_wp2_with fail
        go_meet
        exact ⟨congrArg Value.string (signed_no HS.out), rfl, Below.refl _ _⟩
      · have h1 : 1 ≤ s.size := by rw [size_of HS.out]; simp [signed]
        go_wp2_with fail
        go_quiet (fail)
        go_wp2_with fail
        go_meet
        exact ⟨congrArg Value.string (signed_yes HS.out), rfl, below_drewN (Below.refl _ _) _⟩
    case rest =>
      obtain ⟨rfl, rfl, hb0⟩ := hcut
      have HB := Lib.hid hb0
      clear hb0
      obtain ⟨t, ht⟩ : ∃ t : ByteArray, t = ⟨l.toArray⟩ := ⟨_, rfl⟩
      rw [← ht]
      have hts : t.data.toList = l := by rw [ht]
      obtain ⟨n, hnl⟩ : ∃ n, n = l.length := ⟨_, rfl⟩
      have hz : t.size = n := by rw [size_of hts, hnl]
      rw [← hnl] at hn
      have HT := Lib.hid (And.intro hts hnl)
      clear ht hts hnl
      go_wp2_with fail
      go_loopw [3, 6, 7] (fun vd vc vi wr => ∃ (i m k c : Nat) (q : Option Addr) (ys : List Nat), vi = .int .i64 i ∧ i ≤ n ∧ vc = .int .i64 m ∧ m ≤ i ∧ vd = .slice q k c ∧ Hid (m = cntD (l.take i) ∧ ReadD w wr q k c ys l i)) (fun _ _ vi _ => n - (intOf vi).toNat)
      case atStart =>
        exact ⟨0, 0, 0, 0, none, [], rfl, Nat.zero_le _, rfl, Nat.le_refl _, rfl, Lib.hid ⟨rfl, rfl, ⟨⟨by simp, fun i hi => by simp at hi⟩, Nat.le_refl _⟩, rfl, Nat.le_refl _, HB.out⟩⟩
      case round =>
        obtain ⟨i, m, k, c, q, ys, rfl, hi, rfl, hm, rfl, hM⟩ := hrel
        go_upto_region 4 with fail
        go_cut [42] (fun b wc => b = .bool (decide (i < n)) ∧ wr = wc)
        case first =>
          by_cases hin : i < n
          · have hil : i < l.length := by rw [← HT.out.2]; exact hin
            have hy := byte_at t l HT.out.1 i hil
            obtain ⟨x, hx⟩ : ∃ x, x = l[i] := ⟨_, rfl⟩
            have hpl := HL.out.1 l[i] (List.getElem_mem _)
            rw [← hx] at hy hpl
            obtain ⟨y, hyy⟩ : ∃ y, y = x.toNat := ⟨_, rfl⟩
            rw [← hyy] at hy hpl
            clear hx hyy
            rcases hpl with rfl | ⟨hp1, hp2⟩
            · go_wp2_with fail
              go_meet
              exact ⟨congrArg Value.bool (decide_eq_true hin).symm, rfl⟩
            · go_wp2_with fail
              go_meet
              exact ⟨congrArg Value.bool (decide_eq_true hin).symm, rfl⟩
          · obtain rfl : i = n := by omega
            go_wp2_with fail
            go_meet
            exact ⟨congrArg Value.bool (by simp), rfl⟩
        case rest =>
          obtain ⟨rfl, rfl⟩ := hcut
          by_cases hin : i < n
          · have hil : i < l.length := by rw [← HT.out.2]; exact hin
            have hy := byte_at t l HT.out.1 i hil
            obtain ⟨x, hx⟩ : ∃ x, x = l[i] := ⟨_, rfl⟩
            have hpl := HL.out.1 l[i] (List.getElem_mem _)
            have hnt := numD_take l i hil
            have hct := cntD_take l i hil
            rw [← hx] at hy hpl hnt hct
            obtain ⟨y, hyy⟩ : ∃ y, y = x.toNat := ⟨_, rfl⟩
            rw [stepD, ← hyy] at hnt
            rw [stepC, ← hyy] at hct
            rw [← hyy] at hy hpl
            clear hx hyy
            have HN := Lib.hid (And.intro hnt hct)
            clear hnt hct
            have hki : k ≤ i := hM.out.2.2.2.2.1
            rcases hpl with rfl | ⟨hp1, hp2⟩
            · go_wp2_with fail
              have hR := hM.out.2
              exact ⟨⟨i + 1, m, k, c, q, ys, by go_num, by omega, rfl, by omega, rfl, Lib.hid ⟨by rw [HN.out.2, if_pos rfl]; exact hM.out.1, hR.1, hR.2.1, by rw [HN.out.1, if_pos rfl]; exact hR.2.2.1, by omega, hR.2.2.2.2⟩⟩, by simp [intOf]; omega⟩
            · have hy46 : ¬ (y = 46) := by omega
              have hcast : ((y - 48 : Nat) : Int) = (y : Int) - 48 := by omega
              have c14 := times_walk q c ys 10 (y - 48) wr hM.out.2.2.1.1 k hM.out.2.1 (by omega) (by omega) (by omega)
              rw [hcast] at c14
              have C14 := Lib.hid c14
              have H46 := Lib.hid hy46
              have hq46 : ((y : Int) == 46) = false := by simp; omega
              clear c14 hcast hy46
              go_wp2_with (first | (go_at_call 14; refine C14.out.mono ?_; rintro e w2 ⟨q2, c2, zs, rfl, h1, h2, h3, h4⟩; have H2 := Lib.hid (And.intro h1 (And.intro h2 (And.intro h3 h4))); clear h1 h2 h3 h4))
              have hR := hM.out.2
              have h2 := H2.out
              exact ⟨⟨i + 1, m + 1, zs.length, c2, q2, zs, by go_num, by omega, by go_num, by omega, rfl, Lib.hid ⟨by rw [HN.out.2, if_neg H46.out, ← hM.out.1], rfl, h2.1, by rw [HN.out.1, if_neg H46.out, h2.2.1, hR.2.2.1], by omega, below_next hR.2.2.2.2 h2.2.2.2⟩⟩, by simp [intOf]; omega⟩
          · obtain rfl : i = n := by omega
            have hcn : cntD l = m := by
              have := hM.out.1
              rw [List.take_of_length_le (by rw [← HT.out.2]; exact Nat.le_refl _)] at this
              exact this.symm
            have hm0 : 0 < m := by have := HL.out.2; omega
            have HCN := Lib.hid hcn
            clear hcn
            go_wp2_with fail
            obtain ⟨wo, hwo⟩ : ∃ wo, wo = wr := ⟨_, rfl⟩
            subst hwo
            go_loopw [4, 8] (fun ve vj wz => ∃ (j : Nat) (v : Int), vj = .int .i64 j ∧ j ≤ i ∧ ve = .int .i64 v ∧ -1000 ≤ v ∧ v ≤ 0 ∧ wz = wo ∧ Hid (v = -(behindD l j : Int))) (fun _ vj _ => i - (intOf vj).toNat)
            case atStart => exact ⟨0, 0, rfl, Nat.zero_le _, rfl, by omega, by omega, rfl, Lib.hid (by simp [behindD])⟩
            case round =>
              obtain ⟨j, v, rfl, hj, rfl, hv1, hv2, rfl, hV⟩ := hrel
              rcases Nat.eq_or_lt_of_le hj with rfl | hji
              · have hd1 : decide ((m : Int) ≤ 1200) = true := by simp; omega
                have hd2 : decide (-2000 ≤ v) = true := by simp; omega
                have hd3 : decide (v ≤ 2000) = true := by simp; omega
                go_wp2_with fail
                go_returns
                have hjl : j = l.length := HT.out.2
                have hR := hM.out.2
                rw [hjl] at hR
                refine ⟨q, c, k, ys, ?_, hR⟩
                have hv := hV.out
                rw [hjl] at hv
                rw [← hv]
              · have hjl : j < l.length := by rw [← HT.out.2]; exact hji
                have hy := byte_at t l HT.out.1 j hjl
                obtain ⟨x, hx⟩ : ∃ x, x = l[j] := ⟨_, rfl⟩
                have hbh : behindD l (j + 1) = if l[j].toNat = 46 then l.length - j - 1 else behindD l j := by rw [behindD, dif_pos hjl]
                rw [← hx] at hy hbh
                obtain ⟨y, hyy⟩ : ∃ y, y = x.toNat := ⟨_, rfl⟩
                rw [← hyy] at hy hbh
                clear hx hyy hj
                have HH := Lib.hid hbh
                clear hbh
                have hin := HT.out.2
                have HIN := Lib.hid hin
                clear hin
                by_cases h46 : y = 46
                · subst h46
                  go_wp2_with fail
                  exact ⟨⟨j + 1, _, by go_num, by omega, rfl, by omega, by omega, trivial, Lib.hid (by rw [HH.out, if_pos rfl]; have := HIN.out; omega)⟩, by simp [intOf]; omega⟩
                · have hq46 : ((y : Int) == 46) = false := by simp; omega
                  have H46 := Lib.hid h46
                  clear h46
                  go_wp2_with fail
                  exact ⟨⟨j + 1, v, by go_num, by omega, rfl, hv1, hv2, trivial, Lib.hid (by rw [HH.out, if_neg H46.out]; exact hV.out)⟩, by simp [intOf]; omega⟩
#print axioms decimal_walk
end Go.Proofs.YtnfddblpenninaaDoor
