/- How package time writes a duration: the walk of format. -/
import Derived.Test.YtdpjkhbjkgkjiaaDoorSpaA
import Derived.Lib.LazyBuf
namespace Go.Proofs.YtdpjkhbjkgkjiaaDoor
open Go.RowKit

theorem int_at (b n cap : Nat) (v : Int) (S : List UInt8) (hv0 : 0 ≤ v) (hv : v < 10000000000000000000) (hn : n + S.length = 32) (hr : (digs v.toNat).length + S.length ≤ 32) (w : World) (hT : TailB w b S) :
    Calls Tryd.prog 32 #[.slice (some ⟨b, 0, none⟩) n cap, .int .u64 v] w fun e w' => ∃ m : Nat, e = .returned (.int .i64 m) ∧ m + (digs v.toNat ++ S).length = 32 ∧ TailB w' b (digs v.toNat ++ S) ∧ Keeps (· = b) w w' :=
  (fmtInt_z b n cap v S hv0 hv hn hr w hT).mono fun _ _ ⟨h1, h2, h3⟩ => ⟨_, h1, by simp; omega, h2, h3⟩

theorem frac_at (b n cap : Nat) (v p K : Int) (q : Nat) (S : List UInt8) (hv0 : 0 ≤ v) (hv : v < 10000000000000000000) (hq : p = q) (hp : q ≤ 9) (hK : K = (10 ^ q : Nat)) (hn : n + S.length = 32) (hr : S.length ≤ 20) (w : World) (hT : TailB w b S) :
    Calls Tryd.prog 31 #[.slice (some ⟨b, 0, none⟩) n cap, .int .u64 v, .int .i64 p] w fun e w' =>
      ∃ m : Nat, e = .returned (.tuple #[.int .i64 m, .int .u64 (v / K)]) ∧ m + (dot (fr v.toNat q) ++ S).length = 32 ∧ TailB w' b (dot (fr v.toNat q) ++ S) ∧ Keeps (· = b) w w' := by
  obtain ⟨v', rfl⟩ := Int.eq_ofNat_of_zero_le hv0
  subst hK hq
  rw [Int.toNat_natCast]
  refine (fmtFrac_any b n cap v' q S (by omega) hp hn hr w hT).mono fun _ _ ⟨h1, h2, h3⟩ => ⟨_, h1, ?_, h2, h3⟩
  have := dot_len (fr v' q)
  have := fr_len v' q
  simp
  omega

/-- The text of u nanoseconds, without a sign. -/
def sec1 (u : Nat) : List UInt8 := digs (u / 1000000000 % 60) ++ (dot (fr u 9) ++ [115])
def sec2 (u : Nat) : List UInt8 := digs (u / 1000000000 / 60 % 60) ++ (109 :: sec1 u)
def body (u : Nat) : List UInt8 :=
  if u = 0 then [48, 115]
  else if u < 1000 then digs u ++ [110, 115]
  else if u < 1000000 then digs (u / 1000) ++ (dot (fr u 3) ++ [194, 181, 115])
  else if u < 1000000000 then digs (u / 1000000) ++ (dot (fr u 6) ++ [109, 115])
  else if u / 1000000000 / 60 = 0 then sec1 u
  else if u / 1000000000 / 60 / 60 = 0 then sec2 u
  else digs (u / 1000000000 / 60 / 60) ++ (104 :: sec2 u)

/-- What the sign and the size of a duration are. -/
def Sized (d u : Int) (neg : Bool) : Prop := (neg = true ∧ d = -u ∧ 0 < u ∧ u ≤ 9223372036854775808) ∨ (neg = false ∧ d = u ∧ 0 ≤ u ∧ u < 9223372036854775808)
def signed (neg : Bool) (l : List UInt8) : List UInt8 := if neg then 45 :: l else l
def FormatEnd (b : Nat) (u : Int) (neg : Bool) (w : World) (e : Ending) (w' : World) : Prop :=
  ∃ m : Nat, e = .returned (.int .i64 m) ∧ m + (signed neg (body u.toNat)).length = 32 ∧ TailB w' b (signed neg (body u.toNat)) ∧ Keeps (· = b) w w'

theorem sized_wrap {d u : Int} (h : d = -u) (h1 : 0 < u) (h2 : u ≤ 9223372036854775808) : IntKind.u64.wrap (-IntKind.u64.wrap d) = u := by
  subst h
  simp only [IntKind.wrap_u64]
  omega
theorem sized_plain {d u : Int} (h : d = u) (h1 : 0 ≤ u) (h2 : u < 9223372036854775808) : IntKind.u64.wrap d = u := by
  subst h
  simp only [IntKind.wrap_u64]
  omega

set_option maxRecDepth 10000 in
theorem cut_at (b m : Nat) (h : m ≤ 32) : ∀ W, (Instr.sliceAt 69 (.pointer (some ⟨b, 0, none⟩)) none (some (.int .i64 (m : Int))) none).run Tryd.prog W = .ok (.slice (some ⟨b, 0, none⟩) m 32) W := fun W => by
  have hal : Tryd.prog.arrayLen 69 = 32 := rfl
  rw [run_sliceAt_array_h W 69 ⟨b, 0, none⟩ rfl .i64 (m : Int) (by omega) (by rw [hal]; omega)]
  go_simp

theorem sec1_len (u : Nat) : (sec1 u).length ≤ 13 := by
  have h1 := digs_len (k := 2) (v := u / 1000000000 % 60) (by decide) (by omega)
  have h2 := dot_len (fr u 9)
  have h3 := fr_len u 9
  unfold sec1
  simp
  omega
theorem sec2_len (u : Nat) : (sec2 u).length ≤ 16 := by
  have h1 := digs_len (k := 2) (v := u / 1000000000 / 60 % 60) (by decide) (by omega)
  have h2 := sec1_len u
  unfold sec2
  simp
  omega
theorem body_len {u : Nat} (hu : u < 10000000000000000000) : (body u).length ≤ 24 := by
  have h1 := sec1_len u
  have h2 := sec2_len u
  unfold body
  split
  · simp
  split
  · have := digs_len (k := 3) (v := u) (by decide) (by omega)
    simp; omega
  split
  · have := digs_len (k := 3) (v := u / 1000) (by decide) (by omega)
    have h2 := dot_len (fr u 3)
    have h3 := fr_len u 3
    simp; omega
  split
  · have := digs_len (k := 3) (v := u / 1000000) (by decide) (by omega)
    have h2 := dot_len (fr u 6)
    have h3 := fr_len u 6
    simp; omega
  split
  · omega
  split
  · omega
  · have := digs_len (k := 7) (v := u / 1000000000 / 60 / 60) (by decide) (by omega)
    simp; omega

theorem tn1 {u : Int} (h : 0 ≤ u) : (u / 1000000000 % 60).toNat = u.toNat / 1000000000 % 60 := by omega
theorem tn2 {u : Int} (h : 0 ≤ u) : (u / 1000000000 / 60 % 60).toNat = u.toNat / 1000000000 / 60 % 60 := by omega
theorem tn3 {u : Int} (h : 0 ≤ u) : (u / 1000000000 / 60 / 60).toNat = u.toNat / 1000000000 / 60 / 60 := by omega

theorem body_secs {u : Nat} (h : 1000000000 ≤ u) (h2 : u / 1000000000 / 60 = 0) : body u = sec1 u := by
  unfold body
  rw [if_neg (by omega), if_neg (by omega), if_neg (by omega), if_neg (by omega), if_pos h2]
theorem body_mins {u : Nat} (h : 1000000000 ≤ u) (h2 : u / 1000000000 / 60 ≠ 0) (h3 : u / 1000000000 / 60 / 60 = 0) : body u = sec2 u := by
  unfold body
  rw [if_neg (by omega), if_neg (by omega), if_neg (by omega), if_neg (by omega), if_neg h2, if_pos h3]
theorem body_hours {u : Nat} (h : 1000000000 ≤ u) (h3 : u / 1000000000 / 60 / 60 ≠ 0) : body u = digs (u / 1000000000 / 60 / 60) ++ (104 :: sec2 u) := by
  unfold body
  rw [if_neg (by omega), if_neg (by omega), if_neg (by omega), if_neg (by omega), if_neg (by omega), if_neg h3]
theorem body_milli {u : Nat} (h : 1000000 ≤ u) (h2 : u < 1000000000) : body u = digs (u / 1000000) ++ (dot (fr u 6) ++ [109, 115]) := by
  unfold body
  rw [if_neg (by omega), if_neg (by omega), if_neg (by omega), if_pos h2]
theorem body_micro {u : Nat} (h : 1000 ≤ u) (h2 : u < 1000000) : body u = digs (u / 1000) ++ (dot (fr u 3) ++ [194, 181, 115]) := by
  unfold body
  rw [if_neg (by omega), if_neg (by omega), if_pos h2]
theorem body_nano {u : Nat} (h : 0 < u) (h2 : u < 1000) : body u = digs u ++ [110, 115] := by
  unfold body
  rw [if_neg (by omega), if_pos h2]

/-- Text T stands at the array's end, from place m on; nothing else turned. -/
def St (b : Nat) (w : World) (m : Nat) (T : List UInt8) (wc : World) : Prop := m + T.length = 32 ∧ TailB wc b T ∧ Keeps (· = b) w wc
theorem St.put {b m : Nat} {w wc : World} {T : List UInt8} (h : St b w m T wc) (c : UInt8) (v : Int) (hv : v = (c.toNat : Int)) (i : Nat) (hi : i + 1 = m) : St b w i (c :: T) (wc.setCell ⟨b, i, none⟩ (.int .u8 v)) :=
  ⟨by have := h.1; simp; omega, h.2.1.put c v hv i (by have := h.1; omega), h.2.2.set (p := ⟨b, i, none⟩) (.inl rfl) _⟩

theorem int_st (b m cap : Nat) (v : Int) (k : Nat) (T : List UInt8) (hk : 0 < k) (hv0 : 0 ≤ v) (hv : v < 10000000000000000000) (hvk : v < (10 ^ k : Nat)) (hm : k ≤ m) (w wc : World) (hT : Hid (St b w m T wc)) :
    Calls Tryd.prog 32 #[.slice (some ⟨b, 0, none⟩) m cap, .int .u64 v] wc fun e w' => ∃ m' : Nat, e = .returned (.int .i64 m') ∧ m - k ≤ m' ∧ m' < m ∧ Hid (St b w m' (digs v.toNat ++ T) w') := by
  have hl := digs_len (k := k) (v := v.toNat) hk (by omega)
  have hp := digs_pos v.toNat
  have h1 := hT.out.1
  refine (int_at b m cap v T hv0 hv h1 (by omega) wc hT.out.2.1).mono ?_
  rintro e w' ⟨m', rfl, h, hB, hK⟩
  refine ⟨m', rfl, ?_, ?_, Lib.hid ⟨h, hB, hT.out.2.2.trans hK⟩⟩ <;> (simp only [List.length_append] at h; omega)
theorem frac_st (b m cap : Nat) (v p K : Int) (q : Nat) (T : List UInt8) (hv0 : 0 ≤ v) (hv : v < 10000000000000000000) (hq : p = q) (hp : q ≤ 9) (hK : K = (10 ^ q : Nat)) (hr : 12 ≤ m) (w wc : World) (hT : Hid (St b w m T wc)) :
    Calls Tryd.prog 31 #[.slice (some ⟨b, 0, none⟩) m cap, .int .u64 v, .int .i64 p] wc fun e w' =>
      ∃ m' : Nat, e = .returned (.tuple #[.int .i64 m', .int .u64 (v / K)]) ∧ m - (q + 1) ≤ m' ∧ m' ≤ m ∧ Hid (St b w m' (dot (fr v.toNat q) ++ T) w') := by
  have h1 := hT.out.1
  have hl1 := dot_len (fr v.toNat q)
  have hl2 := fr_len v.toNat q
  refine (frac_at b m cap v p K q T hv0 hv hq hp hK h1 (by omega) wc hT.out.2.1).mono ?_
  rintro e w' ⟨m', rfl, h, hB, hK⟩
  refine ⟨m', rfl, ?_, ?_, Lib.hid ⟨h, hB, hT.out.2.2.trans hK⟩⟩ <;> (simp only [List.length_append] at h; omega)
theorem St.cell {b m : Nat} {w wc : World} {T : List UInt8} (h : Hid (St b w m T wc)) (hm : 1 ≤ m) (hm' : m ≤ 32) : ∃ v, wc.cell? ⟨b, m - 1, none⟩ = some v := h.out.2.1.cell (m - 1) (by omega)
theorem St.frozen {b m : Nat} {w wc : World} {T : List UInt8} (h : Hid (St b w m T wc)) : wc.frozen? ⟨b, m - 1, none⟩ = false := h.out.2.1.frozen (m - 1)

set_option maxRecDepth 10000 in
theorem copy_mu (b : Nat) (w wc : World) (T : List UInt8) (h : Hid (St b w 31 T wc)) :
    (Builtin.copy_ #[23, 9] 3 #[.slice (some ⟨b, 29, none⟩) 3 3, .string { data := #[194, 181] }]).run Tryd.prog wc = .ok (.int .i64 2) ((wc.setCell ⟨b, 29, none⟩ (.int .u8 194)).setCell ⟨b, 30, none⟩ (.int .u8 181)) := by
  have hb : ∀ j, j < 2 → (wc.cell? ⟨b, 29 + j, none⟩).isSome = true := fun j hj => by
    obtain ⟨v, hv⟩ := h.out.2.1.cell (29 + j) (by omega)
    rw [hv]; rfl
  exact run_copy_string (P := Tryd.prog) wc 23 9 3 5 b 29 3 3 { data := #[194, 181] } rfl (fun _ => rfl) (by decide) hb (fun j _ => h.out.2.1.frozen (29 + j))
theorem St.put2 {b : Nat} {w wc : World} {T : List UInt8} (h : St b w 31 T wc) : St b w 29 (194 :: 181 :: T) ((wc.setCell ⟨b, 29, none⟩ (.int .u8 194)).setCell ⟨b, 30, none⟩ (.int .u8 181)) := by
  obtain ⟨h1, ⟨cs, t, hw, hs, hl, hc⟩, h3⟩ := h
  refine ⟨by simp; omega, ⟨(cs.setIfInBounds 29 (.int .u8 194)).setIfInBounds 30 (.int .u8 181), t, (hw.set 29 _).set 30 _, by simpa using hs, by simp; omega, ?_⟩, (h3.set (p := ⟨b, 29, none⟩) (.inl rfl) _).set (p := ⟨b, 30, none⟩) (.inl rfl) _⟩
  intro i hi
  have e : 32 - (194 :: 181 :: T).length = 29 := by simp; omega
  rw [e]
  match i with
  | 0 => simp [hs]
  | 1 => simp [hs]
  | j + 2 =>
    have hj : j < T.length := by simpa using hi
    have := hc j hj
    rw [show 32 - T.length + j = 29 + (j + 2) by omega] at this
    rw [Array.getElem?_setIfInBounds, if_neg (by omega), Array.getElem?_setIfInBounds, if_neg (by omega), this]
    rfl

set_option maxRecDepth 100000 in
set_option maxHeartbeats 1600000 in
theorem format_any (b : Nat) (d u : Int) (neg : Bool) (hs : Sized d u neg) (w : World) (hT : TailB w b []) :
    Calls Tryd.prog 24 #[.int .i64 d, .pointer (some ⟨b, 0, none⟩)] w fun e w' => FormatEnd b u neg w e w' := by
  have HT : Hid (St b w 32 [] w) := Lib.hid ⟨rfl, hT, Keeps.refl _ w⟩
  have HS := Lib.hid hs
  clear hT hs
  go_enter Tryd.func24, Tryd.ntmps24
  go_upto_if 13 with fail
  go_cut [6, 7] (fun s6 s7 wc => s6 = .int .u64 u ∧ s7 = .bool neg ∧ w = wc)
  case first =>
    rcases Int.lt_or_le d 0 with hd | hd
    · go_wp2
      go_meet
      rcases HS.out with ⟨h1, h2, h3, h4⟩ | ⟨_, h2, _, _⟩
      · exact ⟨congrArg (Value.int .u64) (sized_wrap h2 h3 h4), by rw [h1, decide_eq_true hd], rfl⟩
      · omega
    · go_wp2
      go_meet
      rcases HS.out with ⟨_, h2, h3, _⟩ | ⟨h1, h2, h3, h4⟩
      · omega
      · exact ⟨congrArg (Value.int .u64) (sized_plain h2 h3 h4), by rw [h1, decide_eq_false (by omega)], rfl⟩
  case rest =>
    obtain ⟨rfl, rfl, rfl⟩ := hcut
    have hu19 : u < 10000000000000000000 := by
      rcases HS.out with ⟨_, _, _, h4⟩ | ⟨_, _, _, h3⟩ <;> omega
    have hu0 : 0 ≤ u := by
      rcases HS.out with ⟨_, _, h4, _⟩ | ⟨_, _, h3, _⟩ <;> omega
    have HN : Hid (neg = true → 0 < u) := Lib.hid (by
      intro h
      rcases HS.out with ⟨_, _, h4, _⟩ | ⟨h3, _, _, _⟩
      · exact h4
      · rw [h] at h3
        cases h3)
    clear HS
    obtain ⟨x, hx⟩ := HT.out.2.1.cell 31 (by omega)
    have hf := HT.out.2.1.frozen 31
    go_upto_if 17 with fail
    go_cut [5] (fun s5 wc => ∃ m : Nat, s5 = .int .i64 m ∧ Hid (St b w m (body u.toNat) wc))
    case first =>
      have H1 := Lib.hid (St.put HT.out 115 115 rfl 31 rfl)
      rcases Int.lt_or_le u 1000000000 with hg | hg
      · have hf30 : (w.setCell ⟨b, 31, none⟩ (.int .u8 115)).frozen? ⟨b, 30, none⟩ = false := H1.out.2.1.frozen 30
        obtain ⟨y, hy⟩ := H1.out.2.1.cell 30 (by omega)
        rcases Int.lt_or_le 0 u with hz | hz
        · rcases Int.lt_or_le u 1000 with hg1 | hg1
          · have H2 := Lib.hid (St.put H1.out 110 110 rfl 30 rfl)
            go_wp2_with fail
            refine (frac_st b 30 _ u 0 1 0 _ hu0 hu19 rfl (by decide) (by decide) (by decide) w _ H2).mono ?_
            rintro e w1 ⟨m1, rfl, m1a, m1b, H3⟩
            have hc1 := cut_at b m1 (by omega)
            go_wp2_with fail
            refine (int_st b m1 32 u 3 _ (by decide) (by omega) (by omega) (by omega) (by omega) w _ H3).mono ?_
            rintro e w2 ⟨m2, rfl, m2a, m2b, H4⟩
            clear hc1 H3
            go_wp2_with fail
            go_meet
            exact ⟨m2, rfl, by rw [body_nano (by omega) (by omega)]; exact H4⟩
          · rcases Int.lt_or_le u 1000000 with hg2 | hg2
            · have H2 := Lib.hid (St.put2 H1.out)
              have hcp := copy_mu b w _ _ H1
              go_wp2_with fail
              refine (frac_st b 29 _ u 3 1000 3 _ hu0 hu19 rfl (by decide) (by decide) (by decide) w _ H2).mono ?_
              rintro e w1 ⟨m1, rfl, m1a, m1b, H3⟩
              have hc1 := cut_at b m1 (by omega)
              go_wp2_with fail
              refine (int_st b m1 32 (u / 1000) 3 _ (by decide) (by omega) (by omega) (by omega) (by omega) w _ H3).mono ?_
              rintro e w2 ⟨m2, rfl, m2a, m2b, H4⟩
              clear hc1 H3
              go_wp2_with fail
              go_meet
              exact ⟨m2, rfl, by rw [body_micro (by omega) (by omega)]; rw [show (u / 1000).toNat = u.toNat / 1000 by omega] at H4; exact H4⟩
            · have H2 := Lib.hid (St.put H1.out 109 109 rfl 30 rfl)
              go_wp2_with fail
              refine (frac_st b 30 _ u 6 1000000 6 _ hu0 hu19 rfl (by decide) (by decide) (by decide) w _ H2).mono ?_
              rintro e w1 ⟨m1, rfl, m1a, m1b, H3⟩
              have hc1 := cut_at b m1 (by omega)
              go_wp2_with fail
              refine (int_st b m1 32 (u / 1000000) 3 _ (by decide) (by omega) (by omega) (by omega) (by omega) w _ H3).mono ?_
              rintro e w2 ⟨m2, rfl, m2a, m2b, H4⟩
              clear hc1 H3
              go_wp2_with fail
              go_meet
              exact ⟨m2, rfl, by rw [body_milli (by omega) (by omega)]; rw [show (u / 1000000).toNat = u.toNat / 1000000 by omega] at H4; exact H4⟩
        · obtain rfl : u = 0 := by omega
          go_wp2_with fail
          go_ret
          cases neg
          · exact ⟨30, rfl, (St.put H1.out 48 48 rfl 30 rfl)⟩
          · exact absurd (HN.out rfl) (by decide)
      · go_wp2_with fail
        refine (frac_st b 31 _ u 9 1000000000 9 _ hu0 hu19 rfl (by decide) (by decide) (by decide) w _ H1).mono ?_
        rintro e w1 ⟨m1, rfl, m1a, m1b, H2⟩
        have hc1 := cut_at b m1 (by omega)
        go_wp2_with fail
        refine (int_st b m1 32 (u / 1000000000 % 60) 2 _ (by decide) (by omega) (by omega) (by omega) (by omega) w _ H2).mono ?_
        rintro e w2 ⟨m2, rfl, m2a, m2b, H3⟩
        rw [tn1 hu0] at H3
        clear hc1 H2
        rcases Int.lt_or_le 0 (u / 1000000000 / 60) with hg2 | hg2
        · obtain ⟨y, hy⟩ := St.cell H3 (by omega) (by omega)
          have hfy := St.frozen H3
          have e1 : ((m2 : Int) - 1).toNat = m2 - 1 := by omega
          have hc2 : ∀ W, (Instr.sliceAt 69 (.pointer (some ⟨b, 0, none⟩)) none (some (.int .i64 ((m2 : Int) - 1))) none).run Tryd.prog W = .ok (.slice (some ⟨b, 0, none⟩) (m2 - 1) 32) W := by
            have := cut_at b (m2 - 1) (by omega)
            rwa [show ((m2 - 1 : Nat) : Int) = (m2 : Int) - 1 by omega] at this
          have H4 := Lib.hid (St.put H3.out 109 109 rfl (m2 - 1) (by omega))
          go_wp2_with fail
          refine (int_st b (m2 - 1) 32 (u / 1000000000 / 60 % 60) 2 _ (by decide) (by omega) (by omega) (by omega) (by omega) w _ H4).mono ?_
          rintro e w3 ⟨m3, rfl, m3a, m3b, H5⟩
          rw [tn2 hu0] at H5
          clear hc2 H4 hy hfy e1
          rcases Int.lt_or_le 0 (u / 1000000000 / 60 / 60) with hg3 | hg3
          · obtain ⟨y, hy⟩ := St.cell H5 (by omega) (by omega)
            have hfy := St.frozen H5
            have e1 : ((m3 : Int) - 1).toNat = m3 - 1 := by omega
            have hc2 : ∀ W, (Instr.sliceAt 69 (.pointer (some ⟨b, 0, none⟩)) none (some (.int .i64 ((m3 : Int) - 1))) none).run Tryd.prog W = .ok (.slice (some ⟨b, 0, none⟩) (m3 - 1) 32) W := by
              have := cut_at b (m3 - 1) (by omega)
              rwa [show ((m3 - 1 : Nat) : Int) = (m3 : Int) - 1 by omega] at this
            have H6 := Lib.hid (St.put H5.out 104 104 rfl (m3 - 1) (by omega))
            go_wp2_with fail
            refine (int_st b (m3 - 1) 32 (u / 1000000000 / 60 / 60) 7 _ (by decide) (by omega) (by omega) (by omega) (by omega) w _ H6).mono ?_
            rintro e w4 ⟨m4, rfl, m4a, m4b, H7⟩
            rw [tn3 hu0] at H7
            clear hc2 H6 hy hfy e1
            go_wp2_with fail
            go_meet
            exact ⟨m4, rfl, by rw [body_hours (by omega) (by omega)]; exact H7⟩
          · go_wp2_with fail
            go_meet
            exact ⟨m3, rfl, by rw [body_mins (by omega) (by omega) (by omega)]; exact H5⟩
        · go_wp2_with fail
          go_meet
          exact ⟨m2, rfl, by rw [body_secs (by omega) (by omega)]; exact H3⟩
    case rest =>
      obtain ⟨m, rfl, HB⟩ := hcut
      have hl := body_len (u := u.toNat) (by omega)
      have hm1 : 8 ≤ m := by have := HB.out.1; omega
      have hm2 : m ≤ 32 := by have := HB.out.1; omega
      obtain ⟨x', hx'⟩ := St.cell HB (by omega) (by omega)
      have hf' := St.frozen HB
      have e1 : ((m : Int) - 1).toNat = m - 1 := by omega
      clear hl
      cases neg
      · go_wp2_with fail
        go_ret
        exact ⟨m, rfl, HB.out⟩
      · go_wp2_with fail
        go_ret
        exact ⟨m - 1, ret_int (by omega), HB.out.put 45 45 rfl (m - 1) (by omega)⟩
end Go.Proofs.YtdpjkhbjkgkjiaaDoor
