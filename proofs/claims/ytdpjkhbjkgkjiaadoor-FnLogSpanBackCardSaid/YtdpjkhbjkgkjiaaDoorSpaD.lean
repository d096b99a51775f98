/- The walk of Spanned. -/
import Derived.Test.YtdpjkhbjkgkjiaaDoorSpaC
import Derived.Test.YtdpjkhbjkgkjiaaDoorParseP
import Derived.Lib.Strings
import Derived.Lib.RuneCountTail
import Derived.BigQuiet
namespace Go.Proofs.YtdpjkhbjkgkjiaaDoor
open Go.RowKit

set_option maxRecDepth 10000 in
/-- A place in a string, for a walk to take. -/
theorem byte_at (s : ByteArray) (l : List UInt8) (h : s.data.toList = l) (i : Nat) (hi : i < l.length) : ∀ W, (Instr.index 9 (.string s) (.int .i64 (i : Int))).run Tryd.prog W = .ok (.int .u8 (l[i].toNat : Int)) W := fun W => by
  subst h
  have hs : i < s.size := by simpa using hi
  rw [run_index_string W 9 s .i64 (i : Int) rfl, dif_pos ⟨by omega, by omega⟩]
  simp
  rfl

/-- The units. -/
def unitName : Nat → List UInt8
  | 0 => [110, 115] | 1 => [194, 181, 115] | 2 => [109, 115] | 3 => [104] | 4 => [109] | _ => [115]
def unitSize : Nat → Nat
  | 0 => 1 | 1 => 1000 | 2 => 1000000 | 3 => 3600000000000 | 4 => 60000000000 | _ => 1000000000

/-- A part of the text: digits, a fraction, a unit. -/
structure Part where
  ds : List UInt8
  f : List UInt8
  k : Nat
def Part.text (p : Part) : List UInt8 := p.ds ++ (dot p.f ++ unitName p.k)
structure Part.Ok (p : Part) : Prop where
  ds : AllDig p.ds
  ds0 : 0 < p.ds.length
  ds7 : p.ds.length ≤ 7
  f : AllDig p.f
  f9 : p.f.length ≤ 9
  k : p.k < 6
  m : unitSize p.k % 10 ^ p.f.length = 0
def Part.value (p : Part) : Nat := numOf p.ds * unitSize p.k + numOf p.f * (unitSize p.k / 10 ^ p.f.length)
def textP : List Part → List UInt8
  | [] => []
  | p :: ps => p.text ++ textP ps
def valueP : List Part → Nat
  | [] => 0
  | p :: ps => p.value + valueP ps
/-- The parts stand in order of their units, all of them under a bound. -/
def OkP (last : Nat) : List Part → Prop
  | [] => True
  | p :: ps => p.Ok ∧ unitSize p.k < last ∧ OkP (unitSize p.k) ps

theorem numOf_lt : ∀ {l : List UInt8}, AllDig l → numOf l < 10 ^ l.length
  | [], _ => by simp [numOf]
  | c :: l, h => by
    have h1 := numOf_lt (l := l) (fun x hx => h x (List.mem_cons_of_mem _ hx))
    have h2 := h c (by simp)
    rw [numOf_cons, List.length_cons, Nat.pow_succ]
    have h3 : (c.toNat - 48) * 10 ^ l.length ≤ 9 * 10 ^ l.length := Nat.mul_le_mul_right _ (by omega)
    omega
theorem numOf_take (l : List UInt8) (k : Nat) (hk : k < l.length) : numOf (l.take (k + 1)) = numOf (l.take k) * 10 + (l[k].toNat - 48) := by
  rw [List.take_add_one, List.getElem?_eq_getElem hk]
  exact numOf_snoc _ _

theorem ba_ext {a b : ByteArray} (h : a.data.toList = b.data.toList) : a = b := by
  cases a; cases b
  simpa using h
theorem signed_no {s : ByteArray} {l : List UInt8} (h : s.data.toList = signed false l) : s = ⟨l.toArray⟩ := ba_ext (by rw [h]; rfl)
theorem signed_yes {s : ByteArray} {l : List UInt8} (h : s.data.toList = signed true l) : s.extract 1 s.size = ⟨l.toArray⟩ := by
  refine ba_ext ?_
  have hz : s.size = (signed true l).length := by rw [← h]; simp
  rw [Lib.extract_data, h, hz]
  simp [signed]
theorem size_of {s : ByteArray} {l : List UInt8} (h : s.data.toList = l) : s.size = l.length := by rw [← h]; simp

/-- The byte behind the digits. -/
theorem behind (f : List UInt8) (k : Nat) (R : List UInt8) : ∃ c : UInt8, ∃ r, dot f ++ (unitName k ++ R) = c :: r ∧ (f ≠ [] → c.toNat = 46) ∧ (f = [] → 57 < c.toNat) := by
  unfold dot
  split
  · rename_i h
    unfold unitName
    split <;> exact ⟨_, _, rfl, fun h' => absurd h h', fun _ => by decide⟩
  · rename_i h
    exact ⟨46, _, rfl, fun _ => rfl, fun h' => absurd h' h⟩

theorem dig_step {s : ByteArray} {pre ds r : List UInt8} (h : s.data.toList = pre ++ (ds ++ r)) (hd : AllDig ds) (j p : Nat) (hj : j < ds.length) (hp : p = pre.length + j) :
    ∃ y : Int, 48 ≤ y ∧ y ≤ 57 ∧ (∀ W, (Instr.index 9 (.string s) (.int .i64 (p : Int))).run Tryd.prog W = .ok (.int .u8 y) W) ∧ (numOf (ds.take (j + 1)) : Int) = (numOf (ds.take j) : Int) * 10 + (y - 48) := by
  have h1 := hd ds[j] (List.getElem_mem hj)
  have e : ∀ hh, (pre ++ (ds ++ r))[p]'hh = ds[j] := by
    intro hh
    subst hp
    rw [List.getElem_append_right (by omega)]
    simp only [Nat.add_sub_cancel_left]
    rw [List.getElem_append_left hj]
  refine ⟨_, ?_, ?_, fun W => byte_at s (pre ++ (ds ++ r)) h p (by simp; omega) W, ?_⟩
  · rw [e]; omega
  · rw [e]; omega
  · rw [e, numOf_take ds j hj]; omega
theorem take_lt {ds : List UInt8} (hd : AllDig ds) (h7 : ds.length ≤ 7) (j : Nat) : numOf (ds.take j) < 10000000 := by
  have h1 := numOf_lt (l := ds.take j) (fun x hx => hd x (List.mem_of_mem_take hx))
  have h2 : (ds.take j).length ≤ 7 := by simp; omega
  have h3 : 10 ^ (ds.take j).length ≤ 10 ^ 7 := Nat.pow_le_pow_right (by decide) h2
  omega
theorem numOf_lt9 {f : List UInt8} (hd : AllDig f) (h9 : f.length ≤ 9) : numOf f < 1000000000 := by
  have h1 := numOf_lt hd
  have h3 : 10 ^ f.length ≤ 10 ^ 9 := Nat.pow_le_pow_right (by decide) h9
  omega

theorem unitSize_pos (k : Nat) : 1 ≤ unitSize k := by unfold unitSize; split <;> decide
theorem unitSize_le (k : Nat) : unitSize k ≤ 3600000000000 := by unfold unitSize; split <;> decide
theorem unitName_pos (k : Nat) : 1 ≤ (unitName k).length := by unfold unitName; split <;> decide
theorem unitName_le (k : Nat) : (unitName k).length ≤ 3 := by unfold unitName; split <;> decide
/-- The table of the units, as it is laid. -/
def unitCells : Obj := .cells #[.string ⟨#[110, 115]⟩, .int .u64 1, .string ⟨#[194, 181, 115]⟩, .int .u64 1000, .string ⟨#[109, 115]⟩, .int .u64 1000000,
  .string ⟨#[104]⟩, .int .u64 3600000000000, .string ⟨#[109]⟩, .int .u64 60000000000, .string ⟨#[115]⟩, .int .u64 1000000000] 62
theorem units_at (w : World) (e : Nat) (he : e < 6) : ∃ (nm : ByteArray) (sz : Int), nm = ⟨(unitName e).toArray⟩ ∧ sz = unitSize e ∧ 1 ≤ nm.size ∧ nm.size ≤ 3 ∧
    (w.alloc unitCells).cell? ⟨w.heap.size, e * 2, none⟩ = some (.string nm) ∧ (w.alloc unitCells).cell? ⟨w.heap.size, e * 2 + 1, none⟩ = some (.int .u64 sz) ∧ 1 ≤ sz := by
  unfold unitCells
  refine ⟨_, _, rfl, rfl, unitName_pos e, unitName_le e, ?_, ?_, by have := unitSize_pos e; omega⟩ <;>
  · match e with
    | 0 | 1 | 2 | 3 | 4 | 5 => simp; rfl
    | n + 6 => omega

theorem take_lt9 {ds : List UInt8} (hd : AllDig ds) (h9 : ds.length ≤ 9) (j : Nat) : numOf (ds.take j) < 1000000000 := by
  have h1 := numOf_lt (l := ds.take j) (fun x hx => hd x (List.mem_of_mem_take hx))
  have h2 : (ds.take j).length ≤ 9 := by simp; omega
  have h3 : 10 ^ (ds.take j).length ≤ 10 ^ 9 := Nat.pow_le_pow_right (by decide) h2
  omega
theorem unit_first (k : Nat) (R : List UInt8) : ∃ c : UInt8, ∃ r, unitName k ++ R = c :: r ∧ 57 < c.toNat := by
  unfold unitName
  split <;> exact ⟨_, _, rfl, by decide⟩
/-- Which unit stands there. -/
theorem which_unit (k e : Nat) (R : List UInt8) (hk : k < 6) (he : e ≤ k) (hR : ∀ c r, R = c :: r → c.toNat ≤ 57) (hl : (unitName e).length ≤ (unitName k ++ R).length) :
    ((unitName k ++ R).take (unitName e).length == unitName e) = decide (e = k) := by
  match k, e with
  | 0, 0 => simp [unitName]
  | 1, 0 => simp [unitName]
  | 1, 1 => simp [unitName]
  | 2, 0 => simp [unitName]
  | 2, 1 => cases R <;> simp [unitName]
  | 2, 2 => simp [unitName]
  | 3, 0 => cases R <;> simp [unitName]
  | 3, 1 => rcases R with _ | ⟨a, _ | ⟨b, R⟩⟩ <;> simp [unitName]
  | 3, 2 => cases R <;> simp [unitName]
  | 3, 3 => simp [unitName]
  | 4, 0 => cases R <;> simp [unitName]
  | 4, 1 => rcases R with _ | ⟨a, _ | ⟨b, R⟩⟩ <;> simp [unitName]
  | 4, 2 =>
    cases R with
    | nil => simp [unitName]
    | cons a r =>
      have := hR a r rfl
      have h2 : a ≠ 115 := by rintro rfl; revert this; decide
      simp [unitName, h2]
  | 4, 3 => simp [unitName]
  | 4, 4 => simp [unitName]
  | 5, 0 => cases R <;> simp [unitName]
  | 5, 1 => rcases R with _ | ⟨a, _ | ⟨b, R⟩⟩ <;> simp [unitName]
  | 5, 2 => cases R <;> simp [unitName]
  | 5, 3 => simp [unitName]
  | 5, 4 => simp [unitName]
  | 5, 5 => simp [unitName]
  | k + 6, _ => omega

theorem below_drewN' {B : Nat} {a b : World} (h : Below B a b) (n : Nat) : Below B a (b.drewN n) := ⟨h.os, h.tape, h.output, h.size, h.block⟩

theorem left_drop {s : ByteArray} {A B U R : List UInt8} (h : s.data.toList = A ++ (B ++ (U ++ R))) {q : Nat} (hq : q = A.length + B.length) : s.data.toList.drop q = U ++ R := by
  rw [h, ← List.append_assoc, hq, ← List.length_append, List.drop_left]
theorem okP_first {last : Nat} {ps : List Part} (h : OkP last ps) : ∀ c r, textP ps = c :: r → c.toNat ≤ 57 := by
  intro c r hc
  cases ps with
  | nil => cases hc
  | cons p ps =>
    obtain ⟨ds, f, k⟩ := p
    have h1 := h.1.ds
    have h2 := h.1.ds0
    cases ds with
    | nil => simp at h2
    | cons a t =>
      simp only [textP, Part.text, List.cons_append, List.cons.injEq] at hc
      rw [← hc.1]
      exact (h1 a (by simp)).2

def SpanEnd (w : World) (neg : Bool) (u : Nat) (e : Ending) (w' : World) : Prop :=
  (∃ n : Int, e = .returned (.tuple #[.int .i64 n, .bool true]) ∧ n = (if neg then -(u : Int) else u)) ∧ Below w.heap.size w w'
def szOf : Value → Nat
  | .string s => s.size
  | _ => 0
/-- Where the reader stands: what is left of the text, what is summed, which unit came last. -/
def Left (ps : List Part) (w : World) (s : ByteArray) (ps1 : List Part) (a b : Int) (wr : World) : Prop :=
  s.data.toList = textP ps1 ∧ OkP b.toNat ps1 ∧ a + valueP ps1 = valueP ps ∧ Below w.heap.size w wr

set_option maxRecDepth 100000 in
set_option maxHeartbeats 4000000 in
theorem spanned_parts (neg : Bool) (s : ByteArray) (ps : List Part) (l : List UInt8) (hl : l = textP ps) (hs : s.data.toList = signed neg l) (hok : OkP 4611686018427387904 ps) (h0 : 0 < valueP ps) (hu : valueP ps ≤ 9223372036854775808) (hun : neg = false → valueP ps < 9223372036854775808) (hz : l ≠ [48, 115])
    (c : UInt8) (l' : List UInt8) (hlc : l = c :: l') (hc : 48 ≤ c.toNat) (hc9 : c.toNat ≤ 57) (hsz : s.size ≤ 40) (w : World) :
    Calls Tryd.prog 12 #[.string s] w fun e w' => SpanEnd w neg (valueP ps) e w' := by
  have hne : s.toList.isEmpty = false := by
    rw [toList_eq, hs, hlc]
    cases neg <;> rfl
  have HS := Lib.hid hs
  have HOK := Lib.hid hok
  have HL := Lib.hid hl
  have HZ := Lib.hid hz
  have HU := Lib.hid (⟨h0, hu, hun⟩ : _ ∧ _ ∧ _)
  clear hz hok h0 hu hun hl
  go_enter Tryd.func12, Tryd.ntmps12
  go_upto_region 1 with fail
  go_cut [4] (fun q wc => q = .bool neg ∧ w = wc)
  case first =>
    cases neg
    · have hb : ∀ W, (Instr.index 9 (.string s) (.int .i64 0)).run Tryd.prog W = .ok (.int .u8 (c.toNat : Int)) W := fun W => by
        have := byte_at s (signed false l) HS.out 0 (by rw [hlc]; simp [signed]) W
        simpa [signed, hlc] using this
      clear hs hlc
      go_wp2_with fail
      go_meet
      exact ⟨congrArg Value.bool (by simp; omega), rfl⟩
    · have hb : ∀ W, (Instr.index 9 (.string s) (.int .i64 0)).run Tryd.prog W = .ok (.int .u8 45) W := fun W => by
        have := byte_at s (signed true l) HS.out 0 (by simp [signed]) W
        simpa [signed] using this
      clear hs hlc
      go_wp2_with fail
      go_meet
      exact ⟨rfl, rfl⟩
  case rest =>
  obtain ⟨rfl, rfl⟩ := hcut
  go_upto_if 23 with fail
  go_cut [0] (fun t wc => t = .string ⟨l.toArray⟩ ∧ w = wc)
  case first =>
    cases neg
    · go_wp2_with fail
      go_meet
      exact ⟨congrArg Value.string (signed_no HS.out), rfl⟩
    · have h1 : 1 ≤ s.size := by rw [size_of HS.out]; simp [signed]
      go_wp2_with fail
      go_meet
      exact ⟨congrArg Value.string (signed_yes HS.out), rfl⟩
  case rest =>
    obtain ⟨rfl, rfl⟩ := hcut
    have hzz : ((⟨l.toArray⟩ : ByteArray).toList == [48, 115]) = false := by
      rw [toList_eq]
      simpa using HZ.out
    clear hs hlc
    go_wp2_with fail
    go_loopw [0, 5, 6] (fun t x y wr => ∃ (s1 : ByteArray) (ps1 : List Part) (a b : Int), t = .string s1 ∧ x = .int .u64 a ∧ y = .int .u64 b ∧ s1.size ≤ 40 ∧ 0 ≤ a ∧ 0 ≤ b ∧ b ≤ 4611686018427387904 ∧ Hid (Left ps w s1 ps1 a b wr)) (fun t _ _ _ => szOf t)
    case atStart => exact ⟨_, ps, 0, 4611686018427387904, rfl, rfl, rfl, by
        have h1 := size_of HS.out
        have h2 : (⟨l.toArray⟩ : ByteArray).size = l.length := size_of rfl
        rw [h2]
        have : (signed neg l).length = l.length + (if neg then 1 else 0) := by cases neg <;> rfl
        omega, by decide, by decide, by decide, Lib.hid ⟨HL.out, HOK.out, by omega, Below.refl _ _⟩⟩
    case round =>
      obtain ⟨s1, ps1, a, b, rfl, rfl, rfl, hs40, ha0, hb0, hb1, HLeft⟩ := hrel
      obtain ⟨wo, hwo⟩ : ∃ wo, wo = wr := ⟨_, rfl⟩
      subst hwo
      cases ps1 with
      | nil =>
        have hne1 : s1.toList.isEmpty = true := by
          rw [toList_eq, HLeft.out.1]
          rfl
        have hav : a = valueP ps := by
          have := HLeft.out.2.2.1
          simp only [valueP] at this
          omega
        have ha1 : 0 < a := by have := HU.out.1; omega
        have ha2 : a ≤ 9223372036854775808 := by have := HU.out.2.1; omega
        have HAV := Lib.hid hav
        clear hav
        cases neg
        · have ha3 : a < 9223372036854775808 := by have := HU.out.2.2 rfl; have := HAV.out; omega
          go_wp2_with fail
          go_ret2
          exact ⟨⟨a, rfl, by rw [HAV.out]; rfl⟩, HLeft.out.2.2.2⟩
        · rcases Int.lt_or_le a 9223372036854775808 with ha3 | ha3
          · go_wp2_with fail
            go_ret2
            exact ⟨⟨-a, rfl, by rw [HAV.out]; rfl⟩, HLeft.out.2.2.2⟩
          · obtain rfl : a = 9223372036854775808 := by omega
            go_wp2_with fail
            go_ret2
            exact ⟨⟨wrap64 (-wrap64 9223372036854775808), rfl, by rw [← HAV.out]; first | decide | simp [wrap64]⟩, HLeft.out.2.2.2⟩
      | cons p ps2 =>
        obtain ⟨ds, f, k⟩ := p
        have hL := HLeft.out
        have hp : Part.Ok ⟨ds, f, k⟩ := hL.2.1.1
        have hdata : s1.data.toList = ds ++ (dot f ++ (unitName k ++ textP ps2)) := by
          rw [hL.1]
          simp [textP, Part.text]
        obtain ⟨cx, r, hcr, hc1, hc2⟩ := behind f k (textP ps2)
        have hne1 : s1.toList.isEmpty = false := by
          rw [toList_eq, hdata, hcr]
          cases ds <;> rfl
        obtain ⟨n0, hn0⟩ : ∃ n0, n0 = ds.length := ⟨_, rfl⟩
        have hd0 := hp.ds0
        have hd7 := hp.ds7
        rw [← hn0] at hd0 hd7
        have hsz1 : n0 + 1 ≤ s1.size := by
          rw [size_of hdata, hcr]
          simp
          omega
        have hix : ∀ W, (Instr.index 9 (.string s1) (.int .i64 (n0 : Int))).run Tryd.prog W = .ok (.int .u8 (cx.toNat : Int)) W := fun W => by
          have := byte_at s1 (ds ++ cx :: r) (by rw [hdata, hcr]) n0 (by simp; omega) W
          rw [this]
          congr 3
          simp [hn0]
        have HD := Lib.hid (⟨hp, hdata, hcr, hn0⟩ : _ ∧ _ ∧ _ ∧ _)
        clear hL hp hdata hcr hn0
        go_upto_region 8 with fail
        go_wp2_with fail
        go_loop [7, 8] (fun n i => ∃ (j : Nat) (x : Int), j ≤ n0 ∧ i = .int .i64 j ∧ n = .int .u64 x ∧ 0 ≤ x ∧ x < 10000000 ∧ Hid (x = numOf (ds.take j))) (fun _ i => n0 - (intOf i).toNat)
        case atStart => exact ⟨0, 0, Nat.zero_le _, rfl, rfl, by decide, by decide, Lib.hid rfl⟩
        case round =>
          obtain ⟨j, x, hj, rfl, rfl, hx0, hx1, HX⟩ := hrel
          go_upto_region 9 with fail
          go_cut [49] (fun t wc => t = .bool (decide (j < n0)) ∧ wo = wc)
          case first =>
            by_cases hjn : j < n0
            · obtain ⟨y, hy0, hy1, hyb, hyx⟩ := dig_step (pre := []) (ds := ds) HD.out.2.1 HD.out.1.ds j j (by rw [← HD.out.2.2.2]; exact hjn) (by simp)
              clear hyx
              go_wp2_with fail
              go_meet
              exact ⟨congrArg Value.bool (decide_eq_true hjn).symm, rfl⟩
            · obtain rfl : j = n0 := by omega
              by_cases hc48 : 48 ≤ cx.toNat
              · have hc57 : 57 < cx.toNat := by
                  by_cases hf0 : f = []
                  · exact hc2 hf0
                  · have := hc1 hf0; omega
                go_wp2_with fail
                go_meet
                exact ⟨congrArg Value.bool (by simp; omega), rfl⟩
              · go_wp2_with fail
                go_meet
                exact ⟨congrArg Value.bool (decide_eq_false hjn).symm, rfl⟩
          case rest =>
          obtain ⟨rfl, rfl⟩ := hcut
          by_cases hjn : j < n0
          · obtain ⟨y, hy0, hy1, hyb, hyx⟩ := dig_step (pre := []) (ds := ds) HD.out.2.1 HD.out.1.ds j j (by rw [← HD.out.2.2.2]; exact hjn) (by simp)
            have HY := Lib.hid hyx
            clear hyx
            go_wp2_with fail
            go_round
            case rel =>
              have h1 := HX.out
              have h2 := HY.out
              have h3 := take_lt (ds := ds) HD.out.1.ds HD.out.1.ds7 (j + 1)
              exact ⟨j + 1, x * 10 + (y - 48), by omega, by go_num, by go_num, by omega, by omega, Lib.hid (by omega)⟩
            case measure => simp [intOf]; omega
          · obtain rfl : j = n0 := by omega
            obtain ⟨F, hF0, hF1, hF⟩ : ∃ F : Int, 0 ≤ F ∧ F < 1000000000 ∧ F = numOf f := ⟨(numOf f : Int), by omega, by have := numOf_lt9 (f := f) HD.out.1.f HD.out.1.f9; omega, rfl⟩
            obtain ⟨T, hT0, hT1, hT⟩ : ∃ T : Int, 1 ≤ T ∧ T ≤ 1000000000 ∧ T = (10 ^ f.length : Nat) := ⟨((10 ^ f.length : Nat) : Int), by have := Nat.pow_pos (n := f.length) (show 0 < 10 by decide); omega, by have : 10 ^ f.length ≤ 10 ^ 9 := Nat.pow_le_pow_right (show 0 < 10 by decide) HD.out.1.f9; omega, rfl⟩
            obtain ⟨q, hq⟩ : ∃ q, q = j + (dot f).length := ⟨_, rfl⟩
            have HF := Lib.hid (⟨hF, hT, hq⟩ : _ ∧ _ ∧ _)
            clear hF hT hq
            go_upto_region 12 with fail
            obtain ⟨d, hd⟩ : ∃ d : Bool, d = !f.isEmpty := ⟨_, rfl⟩
            have HFD := Lib.hid hd
            clear hd
            go_cut [73] (fun t wc => t = .bool d ∧ wo = wc)
            case first =>
              by_cases hf0 : f = []
              · have hcc := hc2 hf0
                subst hf0
                go_wp2_with fail
                go_meet
                exact ⟨congrArg Value.bool (by rw [HFD.out]; simp; omega), rfl⟩
              · have hcc := hc1 hf0
                go_wp2_with fail
                go_meet
                exact ⟨congrArg Value.bool (by rw [HFD.out]; simpa using hf0), rfl⟩
            case rest =>
            obtain ⟨rfl, rfl⟩ := hcut
            go_upto_if 73 with fail
            go_cut [8, 9, 10] (fun x8 x9 x10 wc => x8 = .int .i64 q ∧ x9 = .int .u64 F ∧ x10 = .int .u64 T ∧ wo = wc)
            case first =>
              cases d
              · have hf0 : f = [] := by simpa using HFD.out
                go_wp2_with fail
                go_meet
                have h := HF.out
                rw [hf0] at h
                simp [numOf, dot] at h
                exact ⟨congrArg (Value.int .i64) (by omega), congrArg (Value.int .u64) (by omega), congrArg (Value.int .u64) (by omega), rfl⟩
              · have hf0 : f ≠ [] := by simpa using HFD.out
                have HF0 := Lib.hid hf0
                obtain ⟨fl, hfl⟩ : ∃ fl, fl = f.length := ⟨_, rfl⟩
                have hfl9 : fl ≤ 9 := by rw [hfl]; exact HD.out.1.f9
                have hfl1 : 1 ≤ fl := by
                  rw [hfl]
                  exact List.length_pos_iff.2 hf0
                have hdd : s1.data.toList = (ds ++ [46]) ++ (f ++ (unitName k ++ textP ps2)) := by
                  rw [HD.out.2.1, show dot f = 46 :: f from if_neg hf0]
                  simp
                obtain ⟨cu, ru, hcu, hcu57⟩ := unit_first k (textP ps2)
                have hpl : (ds ++ [46]).length = j + 1 := by rw [List.length_append, ← HD.out.2.2.2]; rfl
                have hix2 : ∀ p : Nat, p = j + 1 + fl → ∀ W, (Instr.index 9 (.string s1) (.int .i64 (p : Int))).run Tryd.prog W = .ok (.int .u8 (cu.toNat : Int)) W := fun p hp W => by
                  have := byte_at s1 ((ds ++ [46]) ++ (f ++ cu :: ru)) (by rw [hdd, hcu]) p (by rw [List.length_append, hpl, List.length_append, ← hfl]; simp; omega) W
                  rw [this]
                  congr 3
                  subst hp
                  rw [List.getElem_append_right (by omega), List.getElem_append_right (by omega)]
                  simp only [hpl, hfl, Nat.add_sub_cancel_left, Nat.sub_self]
                  rfl
                have hsz2 : j + 2 + fl ≤ s1.size := by
                  rw [size_of hdd, List.length_append, hpl, List.length_append, ← hfl, hcu]
                  simp
                  omega
                have HFL := Lib.hid (⟨hfl, hdd, hpl⟩ : _ ∧ _ ∧ _)
                have HIX := Lib.hid hix2
                clear hf0 hfl hdd hcu hpl hix2 hc1 hc2 hix
                go_wp2_with fail
                go_loop [8, 9, 10] (fun i fx sc => ∃ (m p : Nat) (X Y : Int), m ≤ fl ∧ p = j + 1 + m ∧ i = .int .i64 p ∧ fx = .int .u64 X ∧ sc = .int .u64 Y ∧ 0 ≤ X ∧ X < 1000000000 ∧ 1 ≤ Y ∧ Y ≤ 1000000000 ∧ Hid (X = numOf (f.take m) ∧ Y = (10 ^ m : Nat))) (fun i _ _ => 100 - (intOf i).toNat)
                case atStart => exact ⟨0, j + 1, 0, 1, Nat.zero_le _, rfl, congrArg (Value.int .i64) (by omega), rfl, rfl, by decide, by decide, by decide, by decide, Lib.hid ⟨rfl, rfl⟩⟩
                case round =>
                  obtain ⟨m, p, X, Y, hm, hp, rfl, rfl, rfl, hX0, hX1, hY0, hY1, HXY⟩ := hrel
                  have HP := Lib.hid hp
                  have hp1 : p = j + 1 + m := hp
                  clear hp
                  by_cases hmf : m < fl
                  · obtain ⟨v, hv0, hv1, hvb, hvx⟩ := dig_step (pre := ds ++ [46]) (ds := f) HFL.out.2.1 HD.out.1.f m p (by rw [← HFL.out.1]; exact hmf) (by rw [HFL.out.2.2]; exact HP.out)
                    have HV := Lib.hid hvx
                    have hps : p < s1.size := by omega
                    have hp40 : p ≤ 40 := by omega
                    clear hvx hp1
                    go_wp2_with fail
                    go_round
                    case rel =>
                      have h1 := HXY.out
                      have h2 := HV.out
                      have h3 := take_lt9 (ds := f) HD.out.1.f HD.out.1.f9 (m + 1)
                      have h4 : 10 ^ (m + 1) ≤ 10 ^ 9 := Nat.pow_le_pow_right (by decide) (by omega)
                      have h5 : (10 : Nat) ^ (m + 1) = 10 ^ m * 10 := Nat.pow_succ ..
                      have h6 := HP.out
                      exact ⟨m + 1, p + 1, X * 10 + (v - 48), Y * 10, by omega, by omega, by go_num, by go_num, by go_num, by omega, by omega, by omega, by omega, Lib.hid ⟨by omega, by omega⟩⟩
                    case measure => simp [intOf]; omega
                  · obtain rfl : m = fl := by omega
                    have hb := HIX.out p HP.out
                    have hps : p < s1.size := by omega
                    have hpj : j + 2 ≤ p := by omega
                    have hp40 : p ≤ 40 := by omega
                    clear hp1
                    go_wp2_with fail
                    go_meet
                    have h := HF.out
                    have h1 := HXY.out
                    rw [HFL.out.1, List.take_length] at h1
                    have h2 : (dot f).length = f.length + 1 := by rw [show dot f = 46 :: f from if_neg HF0.out]; rfl
                    have h3 := HP.out
                    have h4 := HFL.out.1
                    exact ⟨congrArg (Value.int .i64) (by omega), congrArg (Value.int .u64) (by omega), congrArg (Value.int .u64) (by omega), rfl⟩
            case rest =>
              obtain ⟨rfl, rfl, rfl, rfl⟩ := hcut
              clear hc1 hc2 hix
              go_upto_region 21 with fail
              go_wp2_with fail
              obtain ⟨M, hM0, hM1, hMk⟩ : ∃ M : Int, 1 ≤ M ∧ M ≤ 3600000000000 ∧ M = unitSize k := ⟨(unitSize k : Int), by have := unitSize_pos k; omega, by have := unitSize_le k; omega, rfl⟩
              obtain ⟨L, hL1, hL3, hLk⟩ : ∃ L : Nat, 1 ≤ L ∧ L ≤ 3 ∧ L = (unitName k).length := ⟨_, unitName_pos k, unitName_le k, rfl⟩
              have HM := Lib.hid (⟨hMk, hLk⟩ : _ ∧ _)
              clear hMk hLk
              go_loopw [12, 13, 116] (fun x12 x13 i wt => ∃ (e : Nat) (y : Int) (z : Nat), e ≤ 6 ∧ i = .int .i64 e ∧ x12 = .int .u64 y ∧ x13 = .int .i64 z ∧ (k < e → y = M ∧ z = L) ∧ (¬ k < e → y = 0 ∧ z = 0) ∧ Hid (Below (wo.heap.size + 1) (wo.alloc unitCells) wt)) (fun _ _ i _ => 6 - (intOf i).toNat)
              case atStart => exact ⟨0, 0, 0, by decide, rfl, rfl, rfl, fun h => absurd h (by omega), fun _ => ⟨rfl, rfl⟩, Lib.hid (Below.refl _ _)⟩
              case round =>
                obtain ⟨e, y, z, he, rfl, rfl, rfl, hy1, hy2, HB⟩ := hrel
                by_cases he6 : e < 6
                · obtain ⟨nm, sz, hnm, hsz, hnl, hnl3, hn1, hn2, hn3⟩ := units_at wo e he6
                  have hn1' := (HB.out.cell (p := ⟨wo.heap.size, e * 2, none⟩) (by simp)).trans hn1
                  have hn2' := (HB.out.cell (p := ⟨wo.heap.size, e * 2 + 1, none⟩) (by simp)).trans hn2
                  have HNM := Lib.hid (⟨hnm, hsz⟩ : _ ∧ _)
                  have hBx : Hid (Below (wo.heap.size + 1) (wo.alloc unitCells) (wr.alloc (.cells #[.string nm, .int .u64 sz] 62))) := Lib.hid (HB.out.alloc (by have := HB.out.size; simpa using this) _)
                  clear hn1 hn2 hnm hsz HB
                  have hqs : q + L ≤ s1.size := by
                    rw [size_of HD.out.2.1, HF.out.2.2, HM.out.2, HD.out.2.2.2]
                    simp
                    omega
                  by_cases hke : k < e
                  · have hyM := (hy1 hke).1.symm
                    have hzL := (hy1 hke).2.symm
                    subst hyM hzL
                    clear hy1 hy2
                    go_upto_region 24 with fail
                    have hMz : (M == 0) = false := by simp; omega
                    go_quiet (fail)
                    go_wp2_with fail
                    go_roundw
                    case rel => exact ⟨e + 1, M, L, by omega, by go_num, rfl, rfl, fun _ => ⟨rfl, rfl⟩, fun h => absurd h (by omega), Lib.hid (below_drewN' hBx.out _)⟩
                    case measure => simp [intOf]; omega
                  · obtain ⟨rfl, rfl⟩ := hy2 hke
                    clear hy1 hy2
                    by_cases hlen : q + nm.size ≤ s1.size
                    · have hcmp : ((s1.extract q (q + nm.size)).toList == nm.toList) = decide (e = k) := by
                        have h1 := HNM.out.1
                        have h2 : nm.size = (unitName e).length := by rw [h1]; exact size_of rfl
                        rw [Lib.extract_toList, h2, toList_eq nm, h1, left_drop HD.out.2.1 (q := q) (by rw [HF.out.2.2, HD.out.2.2.2]), Nat.add_sub_cancel_left]
                        refine which_unit k e _ HD.out.1.k (by omega) (okP_first HLeft.out.2.1.2.2) ?_
                        have h3 := size_of HD.out.2.1
                        have h4 := HF.out.2.2
                        have h5 := HD.out.2.2.2
                        simp only [List.length_append] at h3 ⊢
                        omega
                      have hd : decide ((nm.size : Int) ≤ (s1.size : Int) - (q : Int)) = true := decide_eq_true (by omega)
                      go_upto_region 24 with fail
                      by_cases hek : e = k
                      · rw [decide_eq_true hek] at hcmp
                        go_quiet (fail)
                        go_wp2_with fail
                        go_quiet (fail)
                        go_wp2_with fail
                        go_roundw
                        case rel =>
                          have h1 := HNM.out
                          have h2 : nm.size = (unitName e).length := by rw [h1.1]; exact size_of rfl
                          have h3 := HM.out
                          rw [← hek] at h3
                          exact ⟨e + 1, sz, nm.size, by omega, by go_num, rfl, rfl, fun _ => ⟨by omega, by omega⟩, fun h => absurd h (by omega), Lib.hid (below_drewN' hBx.out _)⟩
                        case measure => simp [intOf]; omega
                      · rw [decide_eq_false hek] at hcmp
                        go_quiet (fail)
                        go_wp2_with fail
                        go_roundw
                        case rel => exact ⟨e + 1, 0, 0, by omega, by go_num, rfl, rfl, fun h => absurd h (by omega), fun _ => ⟨rfl, rfl⟩, Lib.hid (below_drewN' hBx.out _)⟩
                        case measure => simp [intOf]; omega
                    · have hd : decide ((nm.size : Int) ≤ (s1.size : Int) - (q : Int)) = false := decide_eq_false (by omega)
                      have hek : e ≠ k := by
                        rintro rfl
                        have h1 := HNM.out.1
                        have h2 : nm.size = (unitName e).length := by rw [h1]; exact size_of rfl
                        have h3 := HM.out.2
                        omega
                      go_upto_region 24 with fail
                      go_quiet (fail)
                      go_wp2_with fail
                      go_roundw
                      case rel => exact ⟨e + 1, 0, 0, by omega, by go_num, rfl, rfl, fun h => absurd h (by omega), fun _ => ⟨rfl, rfl⟩, Lib.hid (below_drewN' hBx.out _)⟩
                      case measure => simp [intOf]; omega
                · obtain rfl : e = 6 := by omega
                  have hyM := (hy1 HD.out.1.k).1.symm
                  have hzL := (hy1 HD.out.1.k).2.symm
                  subst hyM hzL
                  clear hy1 hy2
                  have hM1 : 0 ≤ x * M := Int.mul_nonneg hx0 (by omega)
                  have hQ1 : 0 ≤ M / T := Int.ediv_nonneg (by omega) (by omega)
                  have hF1' : 0 ≤ F * (M / T) := Int.mul_nonneg hF0 hQ1
                  have hval : a + (x * M + F * (M / T)) + valueP ps2 = valueP ps := by
                    have h1 := HLeft.out.2.2.1
                    have h2 := HX.out
                    rw [HD.out.2.2.2, List.take_length] at h2
                    have h3 : ((valueP (⟨ds, f, k⟩ :: ps2) : Nat) : Int) = x * M + F * (M / T) + valueP ps2 := by
                      rw [h2, HF.out.1, HF.out.2.1, HM.out.1]
                      simp only [valueP, Part.value]
                      push_cast
                      rfl
                    omega
                  have hvu := HU.out.2.1
                  have hsum : x * M + F * (M / T) ≤ 9223372036854775808 := by omega
                  have hsum2 : a + (x * M + F * (M / T)) ≤ 9223372036854775808 := by omega
                  have hMb : M < b := by
                    have h1 := HLeft.out.2.1.2.1
                    have h2 := HM.out.1
                    simp only at h1
                    omega
                  have hmod : (M % T != 0) = false := by
                    have h1 : unitSize k % 10 ^ f.length = 0 := HD.out.1.m
                    rw [HM.out.1, HF.out.2.1, ← Int.natCast_emod, h1]
                    rfl
                  have hqs : q + L ≤ s1.size := by
                    rw [size_of HD.out.2.1, HF.out.2.2, HM.out.2, HD.out.2.2.2]
                    simp
                    omega
                  clear hvu
                  have HVAL := Lib.hid hval
                  clear hval
                  have hq1 : 1 ≤ q := by have := HF.out.2.2; omega
                  have hqz : ((q : Int) == 0) = false := by simp; omega
                  have hMz : (M == 0) = false := by simp; omega
                  go_wp2_with fail
                  go_roundw
                  case rel =>
                    have h1 := HLeft.out
                    refine ⟨_, ps2, _, M, rfl, rfl, rfl, ?_, by omega, by omega, by omega, Lib.hid ⟨?_, ?_, ?_, ?_⟩⟩
                    · rw [Lib.tail_size]; omega
                    · rw [Lib.extract_data, HD.out.2.1]
                      have h2 : (ds ++ (dot f ++ (unitName k ++ textP ps2))).drop (q + L) = textP ps2 := by
                        rw [← List.append_assoc, ← List.append_assoc]
                        have h3 : (ds ++ dot f ++ unitName k).length = q + L := by
                          have h4 := HF.out.2.2
                          have h5 := HD.out.2.2.2
                          have h6 := HM.out.2
                          simp only [List.length_append]
                          omega
                        rw [← h3, List.drop_left]
                      rw [h2, List.take_of_length_le]
                      have h7 := size_of HD.out.2.1
                      have h4 := HF.out.2.2
                      have h5 := HD.out.2.2.2
                      have h6 := HM.out.2
                      simp only [List.length_append] at h7
                      omega
                    · have h2 := HM.out.1
                      rw [h2, Int.toNat_natCast]
                      exact h1.2.1.2.2
                    · exact HVAL.out
                    · exact (h1.2.2.2.alloc h1.2.2.2.size _).trans (HB.out.mono (by have := h1.2.2.2.size; omega))
                  case measure =>
                    show (s1.extract (q + L) s1.size).size < s1.size
                    rw [Lib.tail_size]; omega
end Go.Proofs.YtdpjkhbjkgkjiaaDoor
