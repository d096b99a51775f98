/- A float's text through package strconv; the row it lies in. -/
import Derived.Test.YtnfddblpenninaaDoorShoMa
import Derived.Test.YtnfddblpenninaaDoorShoMb
import Derived.Test.YtnfddblpenninaaDoorShoMc
import Derived.Test.YtnfddblpenninaaDoorShoMd
import Derived.Test.YtnfddblpenninaaDoorMgN
import Derived.Test.YtnfddblpenninaaDoorShoN
import Derived.Test.YtnfddblpenninaaDoorMgO
import Derived.Deep.DeepCutAuto
namespace Go.Proofs.YtnfddblpenninaaDoor
open Go.RowKit

def RetP (R : Value → World → Prop) (e : Ending) (w' : World) : Prop := ∃ v, e = .returned v ∧ R v w'
/-- What 'ftoa' hands back. -/
def FVal (w : World) (neg : Bool) (m : Nat) (k least : Int) (top c : Nat) (v : Value) (w' : World) : Prop :=
  ((m ≠ 0 ∧ ∃ (ds : List UInt8) (dp : Int), Out w' w.heap.size v (textS c neg ds dp) ∧ ShortDs m k least top ds dp) ∨ (m = 0 ∧ c = 102 ∧ Out w' w.heap.size v (sgnF neg ++ [48]))) ∧ Below w.heap.size w w'
/-- What the text is. -/
def JVal (w : World) (neg : Bool) (m : Nat) (k least : Int) (top : Nat) (v : Value) (w' : World) : Prop := (∃ T : List UInt8, Out w' w.heap.size v T ∧ NumOf neg T m k least top) ∧ Below w.heap.size w w'
theorem fval_short {w w' : World} {neg : Bool} {m : Nat} {k least : Int} {top c : Nat} {e : Ending} (hm : m ≠ 0) (h : ShortEnd w neg m k least top c e w') : RetP (FVal w neg m k least top c) e w' := by
  obtain ⟨v, ds, dp, h1, h2, h3, h4⟩ := h
  exact ⟨v, h1, .inl ⟨hm, ds, dp, h2, h3⟩, h4⟩
theorem fval_zero {w w' : World} {neg : Bool} {m : Nat} {k least : Int} {top : Nat} {e : Ending} (hm : m = 0) (h : TextEnd w (sgnF neg ++ [48]) e w') : RetP (FVal w neg m k least top 102) e w' := by
  obtain ⟨v, h1, h2, h3⟩ := h
  exact ⟨v, h1, .inr ⟨hm, rfl, h2⟩, h3⟩
theorem ftoa64_any (b c : Nat) (hc : (c = 101 ∧ manF b ≠ 0) ∨ c = 102) (hb : b < 18446744073709551616) (hx : expF b < 2047) (w : World) (hG : Glob w) :
    Calls Tryd.prog 46 #[.slice none 0 0, .float .f64 b, .int .u8 (c : Int), .int .i64 (-1)] w (RetP (FVal w (decide (9223372036854775808 ≤ b)) (manF b) (powF b) (-1074) 4503599627370496 c)) := by
  rcases hc with ⟨rfl, h0⟩ | rfl
  · exact (ftoa64e b hb hx h0 w hG).mono fun _ _ h => fval_short h0 h
  · by_cases h0 : manF b = 0
    · exact (ftoa64z b hb hx h0 w hG).mono fun _ _ h => fval_zero h0 h
    · exact (ftoa64f b hb hx h0 w hG).mono fun _ _ h => fval_short h0 h
theorem ftoa32_any (b c : Nat) (hc : (c = 101 ∧ manS b ≠ 0) ∨ c = 102) (hb : b < 4294967296) (hx : expS b < 255) (w : World) (hG : Glob w) :
    Calls Tryd.prog 45 #[.slice none 0 0, .float .f32 b, .int .u8 (c : Int), .int .i64 (-1)] w (RetP (FVal w (decide (2147483648 ≤ b)) (manS b) (powS b) (-149) 8388608 c)) := by
  rcases hc with ⟨rfl, h0⟩ | rfl
  · exact (ftoa32e b hb hx h0 w hG).mono fun _ _ h => fval_short h0 h
  · by_cases h0 : manS b = 0
    · exact (ftoa32z b hb hx h0 w hG).mono fun _ _ h => fval_zero h0 h
    · exact (ftoa32f b hb hx h0 w hG).mono fun _ _ h => fval_short h0 h
set_option maxRecDepth 100000 in
theorem af64 (b : Nat) (c : Int) (R : Value → World → Prop) (w : World) (h : Calls Tryd.prog 46 #[.slice none 0 0, .float .f64 b, .int .u8 c, .int .i64 (-1)] w (RetP R)) :
    Calls Tryd.prog 40 #[.slice none 0 0, .float .f64 b, .int .u8 c, .int .i64 (-1), .int .i64 64] w (RetP R) := by
  have C := Lib.hid h
  clear h
  go_enter Tryd.func40, Tryd.ntmps40
  go_wp2_with (go_at_call 46; refine C.out.mono ?_; intro e1 w1 h1; obtain ⟨v, rfl, h2⟩ := h1; have H2 := Lib.hid h2; clear h2)
  go_returns
  exact ⟨v, rfl, H2.out⟩
set_option maxRecDepth 100000 in
theorem sf64 (b : Nat) (c : Int) (R : Value → World → Prop) (w : World) (h : Calls Tryd.prog 46 #[.slice none 0 0, .float .f64 b, .int .u8 c, .int .i64 (-1)] w (RetP R)) :
    Calls Tryd.prog 35 #[.slice none 0 0, .float .f64 b, .int .u8 c, .int .i64 (-1), .int .i64 64] w (RetP R) := by
  have C := Lib.hid (af64 b c R w h)
  clear h
  go_enter Tryd.func35, Tryd.ntmps35
  go_wp2_with (go_at_call 40; refine C.out.mono ?_; intro e1 w1 h1; obtain ⟨v, rfl, h2⟩ := h1; have H2 := Lib.hid h2; clear h2)
  go_returns
  exact ⟨v, rfl, H2.out⟩
theorem nar_conv (s : Nat) (hs : s < 4294967296) (h : expS s < 255) (W : World) : (convert 22 27 (.float .f64 (wid s))).run Tryd.prog W = .ok (.float .f32 s) W :=
  run_convert_float_float W 22 27 .f64 .f32 (wid s) s (by rw [Tryd.underlying22]; rfl) Tryd.underlying27 (nar_run s hs h)
theorem wid_conv (s : Nat) (hs : s < 4294967296) (h : expS s < 255) (W : World) : (convert 27 22 (.float .f32 s)).run Tryd.prog W = .ok (.float .f64 (wid s)) W :=
  run_convert_float_float W 27 22 .f32 .f64 s (wid s) (by rw [Tryd.underlying27]; rfl) Tryd.underlying22 (wid_run s hs h)
set_option maxRecDepth 100000 in
theorem af32 (s : Nat) (hs : s < 4294967296) (hx : expS s < 255) (c : Int) (R : Value → World → Prop) (w : World) (h : Calls Tryd.prog 45 #[.slice none 0 0, .float .f32 s, .int .u8 c, .int .i64 (-1)] w (RetP R)) :
    Calls Tryd.prog 40 #[.slice none 0 0, .float .f64 (wid s), .int .u8 c, .int .i64 (-1), .int .i64 32] w (RetP R) := by
  have C := Lib.hid h
  have hn := nar_conv s hs hx
  obtain ⟨b, hb⟩ : ∃ b, b = wid s := ⟨_, rfl⟩
  rw [← hb] at hn ⊢
  clear h hb
  go_enter Tryd.func40, Tryd.ntmps40
  go_wp2_with (go_at_call 45; refine C.out.mono ?_; intro e1 w1 h1; obtain ⟨v, rfl, h2⟩ := h1; have H2 := Lib.hid h2; clear h2)
  go_returns
  exact ⟨v, rfl, H2.out⟩
set_option maxRecDepth 100000 in
theorem sf32 (s : Nat) (hs : s < 4294967296) (hx : expS s < 255) (c : Int) (R : Value → World → Prop) (w : World) (h : Calls Tryd.prog 45 #[.slice none 0 0, .float .f32 s, .int .u8 c, .int .i64 (-1)] w (RetP R)) :
    Calls Tryd.prog 35 #[.slice none 0 0, .float .f64 (wid s), .int .u8 c, .int .i64 (-1), .int .i64 32] w (RetP R) := by
  have C := Lib.hid (af32 s hs hx c R w h)
  obtain ⟨b, hb⟩ : ∃ b, b = wid s := ⟨_, rfl⟩
  rw [← hb] at C ⊢
  clear h hb
  go_enter Tryd.func35, Tryd.ntmps35
  go_wp2_with (go_at_call 40; refine C.out.mono ?_; intro e1 w1 h1; obtain ⟨v, rfl, h2⟩ := h1; have H2 := Lib.hid h2; clear h2)
  go_returns
  exact ⟨v, rfl, H2.out⟩
/-- Nought is not other than nought. -/
theorem order_zero (b : Nat) (hb : b < 18446744073709551616) (hx : expF b < 2047) (h0 : manF b = 0) : (FloatKind.f64.format.order b 0 != some .eq) = false := by
  have z0 : FloatKind.f64.format.read 0 = .number false 0 (-1074) := by rw [read_fin 0 (by decide) (by decide)]; rfl
  rw [order_eq, read_fin b hb hx, z0, h0]
  simp only [Ieee.Datum.order, Ieee.signed, shl_eq, Nat.zero_mul]
  simp
theorem man_mod (b : Nat) (hb : b < 18446744073709551616) : manF (b % 9223372036854775808) = manF b := by
  have h1 := exp_mod b hb
  have h2 : fracF (b % 9223372036854775808) = fracF b := by unfold fracF; omega
  unfold manF
  rw [h1, h2]
theorem wid_mod (s : Nat) (h : expS s < 255) : wid s % 9223372036854775808 = wid (s % 2147483648) ∧ expS (s % 2147483648) < 255 := by
  have e1 : expS (s % 2147483648) = expS s := by unfold expS; omega
  have e2 : fracS (s % 2147483648) = fracS s := by unfold fracS; omega
  have e3 : manS (s % 2147483648) = manS s := by unfold manS; rw [e1, e2]
  have e4 : powS (s % 2147483648) = powS s := by unfold powS; rw [e1]
  have e5 : upS (s % 2147483648) = upS s := by unfold upS; rw [e3]
  refine ⟨?_, by rw [e1]; exact h⟩
  by_cases h0 : manS s = 0
  · rw [wid_zero s h0, wid_zero _ (by rw [e3]; exact h0), if_neg (show ¬ 2147483648 ≤ s % 2147483648 by omega)]
    split <;> decide
  · obtain ⟨R, r1, r2, r3⟩ := wid_eq s h h0
    obtain ⟨R', q1, q2, q3⟩ := wid_eq (s % 2147483648) (by rw [e1]; exact h) (by rw [e3]; exact h0)
    rw [e3, e4, e5, ← r2] at q2
    rw [r3, q3, if_neg (show ¬ 2147483648 ≤ s % 2147483648 by omega), q2]
    split <;> omega
/-- A text of the call's own, as a slice. -/
theorem Out.shape {w : World} {base : Nat} {v : Value} {l : List UInt8} (h : Out w base v l) (h0 : 0 < l.length) :
    ∃ g cap, v = .slice (some ⟨g, 0, none⟩) l.length cap ∧ base ≤ g ∧ l.length ≤ cap ∧ g < w.heap.size ∧ (∀ i (hi : i < l.length), w.cell? ⟨g, i, none⟩ = some (byteV l[i])) ∧ (∀ i, w.frozen? ⟨g, i, none⟩ = false) ∧
      ∀ (i : Nat) (c : UInt8), i + 1 < l.length → Out (w.setCell ⟨g, i, none⟩ (byteV c)) base (.slice (some ⟨g, 0, none⟩) (l.length - 1) cap) ((l.set i c).take (l.length - 1)) := by
  rcases h.2 with ⟨rfl, h1⟩ | ⟨g, cap, cur, rfl, hb, hgg, hnc, hmx, hsz, htk⟩
  · omega
  · have hw : Whole w g 5 cur := hgg
    have hcell : ∀ i (hi : i < l.length), cur[i]? = some (byteV l[i]) := fun i hi => by
      have h6 := congrArg (·[i]?) htk
      simp only [List.getElem?_map, List.getElem?_eq_getElem hi, Option.map_some] at h6
      rw [List.getElem?_take_of_lt (by omega)] at h6
      simpa using h6
    refine ⟨g, cap, rfl, hb, hnc, hw.lt, fun i hi => by rw [hw.cell]; exact hcell i hi, fun i => hw.frozen i, fun i c hi => ?_⟩
    have hset := hw.set i (byteV c)
    refine ⟨by simp, .inr ⟨g, cap, cur.setIfInBounds i (byteV c), ?_, hb, hset, ?_, hmx, by simpa using hsz, ?_⟩⟩
    · congr 1
      rw [List.length_take, List.length_set]
      omega
    · rw [List.length_take, List.length_set]
      omega
    · apply List.ext_getElem?
      intro j
      rw [List.length_take, List.length_set, Nat.mul_one, Nat.min_eq_left (by omega)]
      by_cases hj : j < l.length - 1
      · rw [List.getElem?_take_of_lt hj, List.getElem?_map, List.getElem?_take_of_lt hj, Array.getElem?_toList, Array.getElem?_setIfInBounds, List.getElem?_set]
        by_cases hij : i = j
        · subst hij
          rw [if_pos rfl, if_pos rfl, if_pos (by omega), if_pos (by omega)]
          rfl
        · rw [if_neg hij, if_neg hij, hcell j (by omega), List.getElem?_eq_getElem (by omega)]
          rfl
      · rw [List.getElem?_eq_none (by rw [List.length_take]; omega), List.getElem?_eq_none (by rw [List.length_map, List.length_take]; omega)]
end Go.Proofs.YtnfddblpenninaaDoor
/- A float of 64 bits in a JSON text: the walk. -/
namespace Go.Proofs.YtnfddblpenninaaDoor
open Go.RowKit

/-- The form that is chosen. -/
def FmtOf64 (b : Nat) (f : Value) : Prop := ∃ c : Nat, f = .int .u8 (c : Int) ∧ ((c = 101 ∧ manF b ≠ 0) ∨ c = 102)
set_option maxRecDepth 1000000 in
set_option maxHeartbeats 16000000 in
theorem jshort64 (b : Nat) (hb : b < 18446744073709551616) (hx : expF b < 2047) (w : World) (hG : Glob w) :
    Calls Tryd.prog 30 #[.slice none 0 0, .float .f64 b, .int .i64 64, .int .i64 (-1)] w (RetP (JVal w (decide (9223372036854775808 ≤ b)) (manF b) (powF b) (-1074) 4503599627370496)) := by
  have C35 := Lib.hid (fun (c : Nat) (hc : (c = 101 ∧ manF b ≠ 0) ∨ c = 102) => sf64 b (c : Int) _ w (ftoa64_any b c hc hb hx w hG))
  clear hG
  have c10 : ∀ W, Calls Tryd.prog 10 #[.float .f64 b] W fun e w' => e = .returned (.bool false) ∧ W = w' := fun W => (nan_any b W).mono fun _ _ ⟨h1, h2⟩ => ⟨by rw [order_self_fin b hb hx] at h1; exact h1, h2⟩
  have C10 := Lib.hid c10
  have cp : ∀ W, Calls Tryd.prog 11 #[.float .f64 b, .int .i64 1] W fun e w' => e = .returned (.bool false) ∧ W = w' := fun W => (infp_any b W).mono fun _ _ ⟨h1, h2⟩ => ⟨by rw [infP_fin b hb hx] at h1; exact h1, h2.symm⟩
  have Cp := Lib.hid cp
  have cm : ∀ W, Calls Tryd.prog 11 #[.float .f64 b, .int .i64 (-1)] W fun e w' => e = .returned (.bool false) ∧ W = w' := fun W => (infm_any b W).mono fun _ _ ⟨h1, h2⟩ => ⟨by rw [infP_fin (negB b) (exp_neg b hb).2 (by rw [(exp_neg b hb).1]; exact hx)] at h1; exact h1, h2.symm⟩
  have Cm := Lib.hid cm
  have c27 : ∀ W, Calls Tryd.prog 27 #[.float .f64 b] W fun e w' => e = .returned (.float .f64 (b % 9223372036854775808)) ∧ W = w' := fun W => (abs_any b W hb).mono fun _ _ ⟨h1, h2⟩ => ⟨h1, h2.symm⟩
  have hz : manF b = 0 → (FloatKind.f64.format.order (b % 9223372036854775808) 0 != some .eq) = false := fun h0 => order_zero (b % 9223372036854775808) (by omega) (by rw [exp_mod b hb]; exact hx) (by rw [man_mod b hb]; exact h0)
  obtain ⟨r, hr⟩ : ∃ r, r = b % 9223372036854775808 := ⟨_, rfl⟩
  rw [← hr] at c27 hz
  have C27 := Lib.hid c27
  have HZ := Lib.hid hz
  clear c10 cp cm c27 hz hr hb hx
  go_enter Tryd.func30, Tryd.ntmps30
  go_upto_if 28 with (first
    | (go_at_call 10; refine (C10.out _).mono ?_; rintro e1 w1 ⟨rfl, rfl⟩)
    | (go_at_call 11; (with_reducible refine (Cp.out _).mono ?_); rintro e1 w1 ⟨rfl, rfl⟩)
    | (go_at_call 11; (with_reducible refine (Cm.out _).mono ?_); rintro e1 w1 ⟨rfl, rfl⟩))
  go_cut [9] (fun f wz => FmtOf64 b f ∧ wz = w)
  case first => as_aux_lemma =>
    cases hz1 : (FloatKind.f64.format.order r 0 != some .eq)
    · clear HZ
      go_wp2_with (go_at_call 27; refine (C27.out _).mono ?_; rintro e1 w1 ⟨rfl, rfl⟩)
      go_meet
      exact ⟨⟨102, rfl, .inr rfl⟩, rfl⟩
    · have hm0 : manF b ≠ 0 := fun h => by
        have h1 := HZ.out h
        rw [hz1] at h1
        cases h1
      have HM0 := Lib.hid hm0
      clear HZ hm0
      cases hz2 : (FloatKind.f64.format.order r 4517329193108106637 == some .lt)
      · cases hz3 : (FloatKind.f64.format.order r 4921056587992461136 == some .gt || FloatKind.f64.format.order r 4921056587992461136 == some .eq)
        · go_wp2_with (go_at_call 27; refine (C27.out _).mono ?_; rintro e1 w1 ⟨rfl, rfl⟩)
          go_meet
          exact ⟨⟨102, rfl, .inr rfl⟩, rfl⟩
        · go_wp2_with (go_at_call 27; refine (C27.out _).mono ?_; rintro e1 w1 ⟨rfl, rfl⟩)
          go_meet
          exact ⟨⟨101, rfl, .inl ⟨rfl, HM0.out⟩⟩, rfl⟩
      · go_wp2_with (go_at_call 27; refine (C27.out _).mono ?_; rintro e1 w1 ⟨rfl, rfl⟩)
        go_meet
        exact ⟨⟨101, rfl, .inl ⟨rfl, HM0.out⟩⟩, rfl⟩
  case rest => as_aux_lemma =>
    obtain ⟨⟨c, rfl, hc⟩, hwc⟩ := hcut
    obtain ⟨wB, hwB⟩ : ∃ wB, wB = wc := ⟨_, rfl⟩
    rw [← hwB] at hwc ⊢
    subst hwc
    clear hwB
    have C := Lib.hid (C35.out c hc)
    rcases hc with ⟨rfl, _⟩ | rfl
    · go_upto_region 14 with (go_at_call 35; refine C.out.mono ?_; rintro e1 w2 ⟨v, rfl, h2⟩; have H2 := Lib.hid h2; clear h2)
      obtain ⟨hm0, ds, dp, hO, hS⟩ : manF b ≠ 0 ∧ ∃ (ds : List UInt8) (dp : Int), Out w2 wB.heap.size v (textE (decide (9223372036854775808 ≤ b)) ds dp) ∧ ShortDs (manF b) (powF b) (-1074) 4503599627370496 ds dp := by
        rcases H2.out.1 with ⟨h0, ds, dp, h1, h2⟩ | ⟨_, h1, _⟩
        · exact ⟨h0, ds, dp, by rw [textS, if_pos rfl] at h1; exact h1, h2⟩
        · exact absurd h1 (by decide)
      obtain ⟨l0, x4, x3, x2, x1, hT, hl0, hcase⟩ := tail_e (decide (9223372036854775808 ≤ b)) ds dp hm0 hS
      have hN : NumOf (decide (9223372036854775808 ≤ b)) (textE (decide (9223372036854775808 ≤ b)) ds dp) (manF b) (powF b) (-1074) 4503599627370496 ∨ True := .inr trivial
      obtain ⟨n, hn⟩ : ∃ n, n = l0.length := ⟨_, rfl⟩
      have hTl : (textE (decide (9223372036854775808 ≤ b)) ds dp).length = n + 4 := by rw [hT, List.length_append, ← hn]; rfl
      obtain ⟨g, cap, rfl, hgb, hcap, hglt, hcell, hfr, hset⟩ := hO.shape (by omega)
      rw [hTl] at hO hcap hset ⊢
      have hat : ∀ (j : Nat) (x : UInt8), [x4, x3, x2, x1][j]? = some x → w2.cell? ⟨g, n + j, none⟩ = some (.int .u8 (x.toNat : Int)) := fun j x hj => by
        have hj4 : j < 4 := by
          have := (List.getElem?_eq_some_iff.1 hj).1
          simpa using this
        have h1 : n + j < (textE (decide (9223372036854775808 ≤ b)) ds dp).length := by omega
        rw [hcell _ h1]
        have h2 : (textE (decide (9223372036854775808 ≤ b)) ds dp)[n + j] = x := by
          have h3 : (textE (decide (9223372036854775808 ≤ b)) ds dp)[n + j]? = some x := by
            rw [hT, List.getElem?_append_right (by omega), show n + j - l0.length = j by omega]
            exact hj
          rw [List.getElem?_eq_getElem h1] at h3
          exact Option.some.inj h3
        rw [h2]
        rfl
      have c4 := hat 0 x4 rfl
      have c3 := hat 1 x3 rfl
      have c2 := hat 2 x2 rfl
      have c1 := hat 3 x1 rfl
      rw [Nat.add_zero] at c4
      have hf2 := hfr (n + 2)
      have hs := hset (n + 2) x1 (by omega)
      replace hs : Out (w2.setCell ⟨g, n + 2, none⟩ (.int .u8 (x1.toNat : Int))) wB.heap.size (.slice (some ⟨g, 0, none⟩) (n + 3) cap) (((textE (decide (9223372036854775808 ≤ b)) ds dp).set (n + 2) x1).take (n + 3)) := hs
      have hl3 : ((textE (decide (9223372036854775808 ≤ b)) ds dp).set (n + 2) x1).take (n + 3) = l0 ++ [x4, x3, x1] := by
        rw [hT, hn]
        apply List.ext_getElem?
        intro j
        by_cases hj : j < l0.length
        · rw [List.getElem?_take_of_lt (by omega), List.getElem?_set_ne (by omega), List.getElem?_append_left hj, List.getElem?_append_left hj]
        · obtain ⟨t, rfl⟩ := Nat.exists_eq_add_of_le (Nat.le_of_not_lt hj)
          rw [List.getElem?_append_right (by omega), Nat.add_sub_cancel_left]
          rcases t with _ | _ | _ | t
          · rw [List.getElem?_take_of_lt (by omega), List.getElem?_set_ne (by omega), List.getElem?_append_right (by omega)]
            simp
          · rw [List.getElem?_take_of_lt (by omega), List.getElem?_set_ne (by omega), List.getElem?_append_right (by omega)]
            simp
          · rw [List.getElem?_take_of_lt (by omega), List.getElem?_set_self (by simp)]
            simp
          · rw [List.getElem?_eq_none (by rw [List.length_take]; omega)]
            simp
      have hgB : wB.heap.size ≤ g := hgb
      have HH := Lib.hid (And.intro hO (And.intro hs (And.intro hl3 (And.intro hgB H2.out.2))))
      have hn100 : n ≤ 100 := by omega
      have hcap4 : n + 4 ≤ cap := hcap
      clear hN hT hl0 hTl hcap hcell hfr hset hat hs hl3 hgB hgb hO hS C H2 hn hm0
      obtain ⟨y4, hy4⟩ : ∃ y4, y4 = x4.toNat := ⟨_, rfl⟩
      obtain ⟨y3, hy3⟩ : ∃ y3, y3 = x3.toNat := ⟨_, rfl⟩
      obtain ⟨y2, hy2⟩ : ∃ y2, y2 = x2.toNat := ⟨_, rfl⟩
      rw [← hy4] at c4
      rw [← hy3] at c3
      rw [← hy2] at c2
      have i4 : ((n + 4 : Nat) : Int) - 4 = (n : Int) := by omega
      have i3 : ((n + 4 : Nat) : Int) - 3 = ((n + 1 : Nat) : Int) := by omega
      have i2 : ((n + 4 : Nat) : Int) - 2 = ((n + 2 : Nat) : Int) := by omega
      have i1 : ((n + 4 : Nat) : Int) - 1 = ((n + 3 : Nat) : Int) := by omega
      rcases hcase with ⟨e4, e3, e2, hN⟩ | ⟨hne, hN⟩
      · have HN := Lib.hid (And.intro hN (And.intro e4 e3))
        have q4 : y4 = 101 := by rw [hy4, e4]; rfl
        have q3 : y3 = 45 := by rw [hy3, e3]; rfl
        have q2 : y2 = 48 := by rw [hy2, e2]; rfl
        subst q4 q3 q2
        clear hN e4 e3 e2 hy4 hy3 hy2
        go_wp2_with fail
        go_returns
        have hs := HH.out.2.1
        rw [HH.out.2.2.1, HN.out.2.1, HN.out.2.2] at hs
        exact ⟨_, rfl, ⟨_, hs, HN.out.1⟩, HH.out.2.2.2.2.setCell HH.out.2.2.2.1 _⟩
      · have HN := Lib.hid hN
        have h3 : (y4 ≠ 101) ∨ (y4 = 101 ∧ y3 ≠ 45) ∨ (y4 = 101 ∧ y3 = 45 ∧ y2 ≠ 48) := by
          by_cases q4 : y4 = 101
          · by_cases q3 : y3 = 45
            · refine .inr (.inr ⟨q4, q3, fun q2 => hne ⟨UInt8.toNat_inj.1 (by rw [← hy4, q4]; rfl), UInt8.toNat_inj.1 (by rw [← hy3, q3]; rfl), UInt8.toNat_inj.1 (by rw [← hy2, q2]; rfl)⟩⟩)
            · exact .inr (.inl ⟨q4, q3⟩)
          · exact .inl q4
        clear hN hne hy4 hy3 hy2
        rcases h3 with q4 | ⟨rfl, q3⟩ | ⟨rfl, rfl, q2⟩
        · have q4' : ((y4 : Int) == 101) = false := by simp; omega
          clear q4
          go_wp2_with fail
          go_returns
          exact ⟨_, rfl, ⟨_, HH.out.1, HN.out⟩, HH.out.2.2.2.2⟩
        · have q3' : ((y3 : Int) == 45) = false := by simp; omega
          clear q3
          go_wp2_with fail
          go_returns
          exact ⟨_, rfl, ⟨_, HH.out.1, HN.out⟩, HH.out.2.2.2.2⟩
        · have q2' : ((y2 : Int) == 48) = false := by simp; omega
          clear q2
          go_wp2_with fail
          go_returns
          exact ⟨_, rfl, ⟨_, HH.out.1, HN.out⟩, HH.out.2.2.2.2⟩
    · go_wp2_with (go_at_call 35; refine C.out.mono ?_; rintro e1 w2 ⟨v, rfl, h2⟩; have H2 := Lib.hid h2; clear h2)
      go_returns
      refine ⟨v, rfl, ?_, H2.out.2⟩
      rcases H2.out.1 with ⟨h0, ds, dp, h1, h2⟩ | ⟨h0, _, h1⟩
      · rw [textS, if_neg (by decide)] at h1
        exact ⟨_, h1, num_f _ ds dp h0 h2⟩
      · exact ⟨_, h1, by rw [h0]; exact num_z _ _ _ _⟩
end Go.Proofs.YtnfddblpenninaaDoor
/- A float of 32 bits in a JSON text: the walk. -/
namespace Go.Proofs.YtnfddblpenninaaDoor
open Go.RowKit

/-- The form that is chosen. -/
def FmtOf32 (b : Nat) (f : Value) : Prop := ∃ c : Nat, f = .int .u8 (c : Int) ∧ ((c = 101 ∧ manS b ≠ 0) ∨ c = 102)
set_option maxRecDepth 1000000 in
set_option maxHeartbeats 16000000 in
theorem jshort32 (u : Nat) (hu : u < 4294967296) (hxu : expS u < 255) (w : World) (hG : Glob w) :
    Calls Tryd.prog 30 #[.slice none 0 0, .float .f64 (wid u), .int .i64 32, .int .i64 (-1)] w (RetP (JVal w (decide (2147483648 ≤ u)) (manS u) (powS u) (-149) 8388608)) := by
  have hwp := wid_parts u hxu
  have C35 := Lib.hid (fun (c : Nat) (hc : (c = 101 ∧ manS u ≠ 0) ∨ c = 102) => sf32 u hu hxu (c : Int) _ w (ftoa32_any u c hc hu hxu w hG))
  clear hG
  obtain ⟨b, hbb⟩ : ∃ b, b = wid u := ⟨_, rfl⟩
  rw [← hbb] at C35 hwp ⊢
  have hb := hwp.1
  have hx := hwp.2.1
  have c10 : ∀ W, Calls Tryd.prog 10 #[.float .f64 b] W fun e w' => e = .returned (.bool false) ∧ W = w' := fun W => (nan_any b W).mono fun _ _ ⟨h1, h2⟩ => ⟨by rw [order_self_fin b hb hx] at h1; exact h1, h2⟩
  have C10 := Lib.hid c10
  have cp : ∀ W, Calls Tryd.prog 11 #[.float .f64 b, .int .i64 1] W fun e w' => e = .returned (.bool false) ∧ W = w' := fun W => (infp_any b W).mono fun _ _ ⟨h1, h2⟩ => ⟨by rw [infP_fin b hb hx] at h1; exact h1, h2.symm⟩
  have Cp := Lib.hid cp
  have cm : ∀ W, Calls Tryd.prog 11 #[.float .f64 b, .int .i64 (-1)] W fun e w' => e = .returned (.bool false) ∧ W = w' := fun W => (infm_any b W).mono fun _ _ ⟨h1, h2⟩ => ⟨by rw [infP_fin (negB b) (exp_neg b hb).2 (by rw [(exp_neg b hb).1]; exact hx)] at h1; exact h1, h2.symm⟩
  have Cm := Lib.hid cm
  have c27 : ∀ W, Calls Tryd.prog 27 #[.float .f64 b] W fun e w' => e = .returned (.float .f64 (b % 9223372036854775808)) ∧ W = w' := fun W => (abs_any b W hb).mono fun _ _ ⟨h1, h2⟩ => ⟨h1, h2.symm⟩
  have hz : manF b = 0 → (FloatKind.f64.format.order (b % 9223372036854775808) 0 != some .eq) = false := fun h0 => order_zero (b % 9223372036854775808) (by omega) (by rw [exp_mod b hb]; exact hx) (by rw [man_mod b hb]; exact h0)
  obtain ⟨r, hr⟩ : ∃ r, r = b % 9223372036854775808 := ⟨_, rfl⟩
  rw [← hr] at c27 hz
  have hrw : r = wid (u % 2147483648) := by rw [hr, hbb]; exact (wid_mod u hxu).1
  have hcv := nar_conv (u % 2147483648) (by omega) (wid_mod u hxu).2
  rw [← hrw] at hcv
  obtain ⟨q, hq⟩ : ∃ q, q = u % 2147483648 := ⟨_, rfl⟩
  rw [← hq] at hcv
  have HM1 := Lib.hid hwp.2.2.2.1
  clear hrw hq hbb hwp hu hxu
  have C27 := Lib.hid c27
  have HZ := Lib.hid hz
  clear c10 cp cm c27 hz hr hb hx
  go_enter Tryd.func30, Tryd.ntmps30
  go_upto_if 28 with (first
    | (go_at_call 10; refine (C10.out _).mono ?_; rintro e1 w1 ⟨rfl, rfl⟩)
    | (go_at_call 11; (with_reducible refine (Cp.out _).mono ?_); rintro e1 w1 ⟨rfl, rfl⟩)
    | (go_at_call 11; (with_reducible refine (Cm.out _).mono ?_); rintro e1 w1 ⟨rfl, rfl⟩))
  go_cut [9] (fun f wz => FmtOf32 u f ∧ wz = w)
  case first => as_aux_lemma =>
    cases hz1 : (FloatKind.f64.format.order r 0 != some .eq)
    · clear HZ
      go_wp2_with (go_at_call 27; refine (C27.out _).mono ?_; rintro e1 w1 ⟨rfl, rfl⟩)
      go_meet
      exact ⟨⟨102, rfl, .inr rfl⟩, rfl⟩
    · have hm0 : manS u ≠ 0 := fun h => by
        have h1 := HZ.out (HM1.out h)
        rw [hz1] at h1
        cases h1
      have HM0 := Lib.hid hm0
      clear HZ hm0
      cases hz2 : (FloatKind.f32.format.order q 897988541 == some .lt)
      · cases hz3 : (FloatKind.f32.format.order q 1649989415 == some .gt || FloatKind.f32.format.order q 1649989415 == some .eq)
        · go_wp2_with (go_at_call 27; refine (C27.out _).mono ?_; rintro e1 w1 ⟨rfl, rfl⟩)
          go_meet
          exact ⟨⟨102, rfl, .inr rfl⟩, rfl⟩
        · go_wp2_with (go_at_call 27; refine (C27.out _).mono ?_; rintro e1 w1 ⟨rfl, rfl⟩)
          go_meet
          exact ⟨⟨101, rfl, .inl ⟨rfl, HM0.out⟩⟩, rfl⟩
      · go_wp2_with (go_at_call 27; refine (C27.out _).mono ?_; rintro e1 w1 ⟨rfl, rfl⟩)
        go_meet
        exact ⟨⟨101, rfl, .inl ⟨rfl, HM0.out⟩⟩, rfl⟩
  case rest => as_aux_lemma =>
    obtain ⟨⟨c, rfl, hc⟩, hwc⟩ := hcut
    obtain ⟨wB, hwB⟩ : ∃ wB, wB = wc := ⟨_, rfl⟩
    rw [← hwB] at hwc ⊢
    subst hwc
    clear hwB
    have C := Lib.hid (C35.out c hc)
    rcases hc with ⟨rfl, _⟩ | rfl
    · go_upto_region 14 with (go_at_call 35; refine C.out.mono ?_; rintro e1 w2 ⟨v, rfl, h2⟩; have H2 := Lib.hid h2; clear h2)
      obtain ⟨hm0, ds, dp, hO, hS⟩ : manS u ≠ 0 ∧ ∃ (ds : List UInt8) (dp : Int), Out w2 wB.heap.size v (textE (decide (2147483648 ≤ u)) ds dp) ∧ ShortDs (manS u) (powS u) (-149) 8388608 ds dp := by
        rcases H2.out.1 with ⟨h0, ds, dp, h1, h2⟩ | ⟨_, h1, _⟩
        · exact ⟨h0, ds, dp, by rw [textS, if_pos rfl] at h1; exact h1, h2⟩
        · exact absurd h1 (by decide)
      obtain ⟨l0, x4, x3, x2, x1, hT, hl0, hcase⟩ := tail_e (decide (2147483648 ≤ u)) ds dp hm0 hS
      have hN : NumOf (decide (2147483648 ≤ u)) (textE (decide (2147483648 ≤ u)) ds dp) (manS u) (powS u) (-149) 8388608 ∨ True := .inr trivial
      obtain ⟨n, hn⟩ : ∃ n, n = l0.length := ⟨_, rfl⟩
      have hTl : (textE (decide (2147483648 ≤ u)) ds dp).length = n + 4 := by rw [hT, List.length_append, ← hn]; rfl
      obtain ⟨g, cap, rfl, hgb, hcap, hglt, hcell, hfr, hset⟩ := hO.shape (by omega)
      rw [hTl] at hO hcap hset ⊢
      have hat : ∀ (j : Nat) (x : UInt8), [x4, x3, x2, x1][j]? = some x → w2.cell? ⟨g, n + j, none⟩ = some (.int .u8 (x.toNat : Int)) := fun j x hj => by
        have hj4 : j < 4 := by
          have := (List.getElem?_eq_some_iff.1 hj).1
          simpa using this
        have h1 : n + j < (textE (decide (2147483648 ≤ u)) ds dp).length := by omega
        rw [hcell _ h1]
        have h2 : (textE (decide (2147483648 ≤ u)) ds dp)[n + j] = x := by
          have h3 : (textE (decide (2147483648 ≤ u)) ds dp)[n + j]? = some x := by
            rw [hT, List.getElem?_append_right (by omega), show n + j - l0.length = j by omega]
            exact hj
          rw [List.getElem?_eq_getElem h1] at h3
          exact Option.some.inj h3
        rw [h2]
        rfl
      have c4 := hat 0 x4 rfl
      have c3 := hat 1 x3 rfl
      have c2 := hat 2 x2 rfl
      have c1 := hat 3 x1 rfl
      rw [Nat.add_zero] at c4
      have hf2 := hfr (n + 2)
      have hs := hset (n + 2) x1 (by omega)
      replace hs : Out (w2.setCell ⟨g, n + 2, none⟩ (.int .u8 (x1.toNat : Int))) wB.heap.size (.slice (some ⟨g, 0, none⟩) (n + 3) cap) (((textE (decide (2147483648 ≤ u)) ds dp).set (n + 2) x1).take (n + 3)) := hs
      have hl3 : ((textE (decide (2147483648 ≤ u)) ds dp).set (n + 2) x1).take (n + 3) = l0 ++ [x4, x3, x1] := by
        rw [hT, hn]
        apply List.ext_getElem?
        intro j
        by_cases hj : j < l0.length
        · rw [List.getElem?_take_of_lt (by omega), List.getElem?_set_ne (by omega), List.getElem?_append_left hj, List.getElem?_append_left hj]
        · obtain ⟨t, rfl⟩ := Nat.exists_eq_add_of_le (Nat.le_of_not_lt hj)
          rw [List.getElem?_append_right (by omega), Nat.add_sub_cancel_left]
          rcases t with _ | _ | _ | t
          · rw [List.getElem?_take_of_lt (by omega), List.getElem?_set_ne (by omega), List.getElem?_append_right (by omega)]
            simp
          · rw [List.getElem?_take_of_lt (by omega), List.getElem?_set_ne (by omega), List.getElem?_append_right (by omega)]
            simp
          · rw [List.getElem?_take_of_lt (by omega), List.getElem?_set_self (by simp)]
            simp
          · rw [List.getElem?_eq_none (by rw [List.length_take]; omega)]
            simp
      have hgB : wB.heap.size ≤ g := hgb
      have HH := Lib.hid (And.intro hO (And.intro hs (And.intro hl3 (And.intro hgB H2.out.2))))
      have hn100 : n ≤ 100 := by omega
      have hcap4 : n + 4 ≤ cap := hcap
      clear hN hT hl0 hTl hcap hcell hfr hset hat hs hl3 hgB hgb hO hS C H2 hn hm0
      obtain ⟨y4, hy4⟩ : ∃ y4, y4 = x4.toNat := ⟨_, rfl⟩
      obtain ⟨y3, hy3⟩ : ∃ y3, y3 = x3.toNat := ⟨_, rfl⟩
      obtain ⟨y2, hy2⟩ : ∃ y2, y2 = x2.toNat := ⟨_, rfl⟩
      rw [← hy4] at c4
      rw [← hy3] at c3
      rw [← hy2] at c2
      have i4 : ((n + 4 : Nat) : Int) - 4 = (n : Int) := by omega
      have i3 : ((n + 4 : Nat) : Int) - 3 = ((n + 1 : Nat) : Int) := by omega
      have i2 : ((n + 4 : Nat) : Int) - 2 = ((n + 2 : Nat) : Int) := by omega
      have i1 : ((n + 4 : Nat) : Int) - 1 = ((n + 3 : Nat) : Int) := by omega
      rcases hcase with ⟨e4, e3, e2, hN⟩ | ⟨hne, hN⟩
      · have HN := Lib.hid (And.intro hN (And.intro e4 e3))
        have q4 : y4 = 101 := by rw [hy4, e4]; rfl
        have q3 : y3 = 45 := by rw [hy3, e3]; rfl
        have q2 : y2 = 48 := by rw [hy2, e2]; rfl
        subst q4 q3 q2
        clear hN e4 e3 e2 hy4 hy3 hy2
        go_wp2_with fail
        go_returns
        have hs := HH.out.2.1
        rw [HH.out.2.2.1, HN.out.2.1, HN.out.2.2] at hs
        exact ⟨_, rfl, ⟨_, hs, HN.out.1⟩, HH.out.2.2.2.2.setCell HH.out.2.2.2.1 _⟩
      · have HN := Lib.hid hN
        have h3 : (y4 ≠ 101) ∨ (y4 = 101 ∧ y3 ≠ 45) ∨ (y4 = 101 ∧ y3 = 45 ∧ y2 ≠ 48) := by
          by_cases q4 : y4 = 101
          · by_cases q3 : y3 = 45
            · refine .inr (.inr ⟨q4, q3, fun q2 => hne ⟨UInt8.toNat_inj.1 (by rw [← hy4, q4]; rfl), UInt8.toNat_inj.1 (by rw [← hy3, q3]; rfl), UInt8.toNat_inj.1 (by rw [← hy2, q2]; rfl)⟩⟩)
            · exact .inr (.inl ⟨q4, q3⟩)
          · exact .inl q4
        clear hN hne hy4 hy3 hy2
        rcases h3 with q4 | ⟨rfl, q3⟩ | ⟨rfl, rfl, q2⟩
        · have q4' : ((y4 : Int) == 101) = false := by simp; omega
          clear q4
          go_wp2_with fail
          go_returns
          exact ⟨_, rfl, ⟨_, HH.out.1, HN.out⟩, HH.out.2.2.2.2⟩
        · have q3' : ((y3 : Int) == 45) = false := by simp; omega
          clear q3
          go_wp2_with fail
          go_returns
          exact ⟨_, rfl, ⟨_, HH.out.1, HN.out⟩, HH.out.2.2.2.2⟩
        · have q2' : ((y2 : Int) == 48) = false := by simp; omega
          clear q2
          go_wp2_with fail
          go_returns
          exact ⟨_, rfl, ⟨_, HH.out.1, HN.out⟩, HH.out.2.2.2.2⟩
    · go_wp2_with (go_at_call 35; refine C.out.mono ?_; rintro e1 w2 ⟨v, rfl, h2⟩; have H2 := Lib.hid h2; clear h2)
      go_returns
      refine ⟨v, rfl, ?_, H2.out.2⟩
      rcases H2.out.1 with ⟨h0, ds, dp, h1, h2⟩ | ⟨h0, _, h1⟩
      · rw [textS, if_neg (by decide)] at h1
        exact ⟨_, h1, num_f _ ds dp h0 h2⟩
      · exact ⟨_, h1, by rw [h0]; exact num_z _ _ _ _⟩
end Go.Proofs.YtnfddblpenninaaDoor
/- A float's text in as few digits as may be, handed back as a string: the walks. -/
namespace Go.Proofs.YtnfddblpenninaaDoor
open Go.RowKit

/-- The text handed back. -/
def LEnd (w : World) (neg : Bool) (m : Nat) (k least : Int) (top : Nat) (e : Ending) (w' : World) : Prop := ∃ T : List UInt8, e = .returned (.string ⟨T.toArray⟩) ∧ NumOf neg T m k least top ∧ Below w.heap.size w w'
theorem JVal.same {w w0 : World} {neg : Bool} {m : Nat} {k least : Int} {top : Nat} {v : Value} {w' : World} (h : JVal w neg m k least top v w') (hb : Below w0.heap.size w0 w) : JVal w0 neg m k least top v w' := by
  obtain ⟨⟨T, h1, h2⟩, h3⟩ := h
  exact ⟨⟨T, h1.lower hb.size, h2⟩, below_next hb h3⟩
set_option maxRecDepth 100000 in
theorem enc64 (b : Nat) (hb : b < 18446744073709551616) (hx : expF b < 2047) (v0 : Value) (w : World) (hG : Glob w) :
    Calls Tryd.prog 20 #[v0, .slice none 0 0, .float .f64 b, .int .i64 (-1)] w (RetP (JVal w (decide (9223372036854775808 ≤ b)) (manF b) (powF b) (-1074) 4503599627370496)) := by
  have HJ := Lib.hid (fun w1 (hb1 : Below w.heap.size w w1) => jshort64 b hb hx w1 (hG.below hb1))
  clear hG hb hx
  go_enter Tryd.func20, Tryd.ntmps20
  go_wp2_with (go_at_call 30; refine (HJ.out _ ((Below.refl w.heap.size w).alloc (Nat.le_refl _) _)).mono ?_; intro e1 w1 h1; obtain ⟨v, rfl, h2⟩ := h1; have h3 := h2.same ((Below.refl w.heap.size w).alloc (Nat.le_refl _) _); have H2 := Lib.hid h3; clear h2 h3)
  go_returns
  exact ⟨v, rfl, H2.out⟩
set_option maxRecDepth 100000 in
theorem enc32 (u : Nat) (hu : u < 4294967296) (hx : expS u < 255) (v0 : Value) (w : World) (hG : Glob w) :
    Calls Tryd.prog 19 #[v0, .slice none 0 0, .float .f32 u, .int .i64 (-1)] w (RetP (JVal w (decide (2147483648 ≤ u)) (manS u) (powS u) (-149) 8388608)) := by
  have HJ := Lib.hid (fun w1 (hb1 : Below w.heap.size w w1) => jshort32 u hu hx w1 (hG.below hb1))
  have hc := wid_conv u hu hx
  clear hG hu hx
  go_enter Tryd.func19, Tryd.ntmps19
  go_wp2_with (go_at_call 30; refine (HJ.out _ ((Below.refl w.heap.size w).alloc (Nat.le_refl _) _)).mono ?_; intro e1 w1 h1; obtain ⟨v, rfl, h2⟩ := h1; have h3 := h2.same ((Below.refl w.heap.size w).alloc (Nat.le_refl _) _); have H2 := Lib.hid h3; clear h2 h3)
  go_returns
  exact ⟨v, rfl, H2.out⟩
set_option maxRecDepth 100000 in
theorem lshort64 (b : Nat) (hb : b < 18446744073709551616) (hx : expF b < 2047) (w : World) (hG : Glob w) :
    Calls Tryd.prog 6 #[.float .f64 b, .int .i64 64, .int .i64 (-1)] w (LEnd w (decide (9223372036854775808 ≤ b)) (manF b) (powF b) (-1074) 4503599627370496) := by
  have HJ := Lib.hid (enc64 b hb hx (.agg #[]) w hG)
  clear hG hb hx
  go_enter Tryd.func6, Tryd.ntmps6
  go_wp2_with (go_at_call 20; refine HJ.out.mono ?_; intro e1 w1 h1; obtain ⟨v, rfl, ⟨T, h2, h3⟩, h4⟩ := h1; have hs := out_string h2; have H2 := Lib.hid (And.intro h3 h4); clear h2 h3 h4)
  go_returns
  exact ⟨T, rfl, H2.out⟩
set_option maxRecDepth 100000 in
theorem lshort32 (u : Nat) (hu : u < 4294967296) (hx : expS u < 255) (w : World) (hG : Glob w) :
    Calls Tryd.prog 6 #[.float .f64 (wid u), .int .i64 32, .int .i64 (-1)] w (LEnd w (decide (2147483648 ≤ u)) (manS u) (powS u) (-149) 8388608) := by
  have HJ := Lib.hid (enc32 u hu hx (.agg #[]) w hG)
  have hc := nar_conv u hu hx
  clear hG hu hx
  go_enter Tryd.func6, Tryd.ntmps6
  go_wp2_with (go_at_call 19; refine HJ.out.mono ?_; intro e1 w1 h1; obtain ⟨v, rfl, ⟨T, h2, h3⟩, h4⟩ := h1; have hs := out_string h2; have H2 := Lib.hid (And.intro h3 h4); clear h2 h3 h4)
  go_returns
  exact ⟨T, rfl, H2.out⟩
end Go.Proofs.YtnfddblpenninaaDoor
