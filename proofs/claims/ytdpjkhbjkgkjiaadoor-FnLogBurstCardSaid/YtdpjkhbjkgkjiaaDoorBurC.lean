/- What LBurst answers: the events that a BurstSampler lets pass. -/
import Derived.Test.YtdpjkhbjkgkjiaaDoorBurB
namespace Go.Proofs.YtdpjkhbjkgkjiaaDoor
open Go.RowKit

def outB (b nx : Int) (first : Bool) (t : Int) (s : SS) : Bool := if stepN first t s ≤ b then true else nextB nx s.a
theorem step_outs (b p nx : Int) (first : Bool) (t : Int) (s : SS) : (stepS b p nx first t s).outs = s.outs ++ [outB b nx first t s] := by
  unfold stepS outB
  split <;> rfl

/-- The next sampler. -/
def nxV (nx : Int) (g2 : Nat) : Value := if nx = 0 then .nilIface else .iface 56 (.pointer (some ⟨g2, 0, none⟩))
/-- How many events the next sampler counted. -/
def cntV (nx : Int) (a : Int) : Int := if nx = 1 then 0 else a
def Imp (b p nx : Int) (g g2 : Nat) (x3 x4 x5 x6 : Value) (s : SS) (W : World) : Prop :=
  Whole W g 55 #[.int .u32 b, .int .i64 p, nxV nx g2, x3, x4, x5, x6, .int .u32 s.n, .int .i64 s.e] ∧ (nx = 0 ∨ Whole W g2 58 (SB nx (cntV nx s.a)))

theorem sample_any (b p nx : Int) (g g2 : Nat) (q m : Int) (first : Bool) (s : SS) (hb0 : 1 ≤ b) (hp0 : 1 ≤ p) (hp1 : p ≤ 1099511627776) (hx0 : 0 ≤ nx) (hx1 : nx ≤ 20)
    (hq0 : 0 ≤ q) (hq1 : q ≤ 2000000) (hm0 : 0 ≤ m) (hm1 : m < 1000000000) (hn0 : 0 ≤ s.n) (hn1 : s.n ≤ 1000) (ha0 : 0 ≤ s.a) (ha1 : s.a ≤ 1000)
    (hv : if first then s.e ≤ q * 1000000000 + m else q * 1000000000 + m ≠ s.e) (W : World)
    (hI : Imp b p nx g g2 (.int .i64 (q + 62135596800)) (.int .i32 m) (.string ⟨#[85, 84, 67]⟩) (.int .i64 0) s W) :
    Calls Tryd.prog 17 #[.pointer (some ⟨g, 0, none⟩), .int .i8 1] W fun e w' => e = .returned (.bool (outB b nx first (q * 1000000000 + m) s)) ∧
      Imp b p nx g g2 (.int .i64 (q + 62135596800)) (.int .i32 m) (.string ⟨#[85, 84, 67]⟩) (.int .i64 0) (stepS b p nx first (q * 1000000000 + m) s) w' ∧ Keeps (fun k => k = g ∨ k = g2) W w' := by
  obtain ⟨hW, hW2⟩ := hI
  -- what inc does
  have hinc : ∀ n, Calls Tryd.prog 23 #[.pointer (some ⟨g, 0, none⟩)] (W.drewN n) fun e w' => e = .returned (.int .u32 (stepN first (q * 1000000000 + m) s)) ∧
      Whole w' g 55 (BS b p (nxV nx g2) q m (stepN first (q * 1000000000 + m) s) (stepE p first (q * 1000000000 + m) s)) ∧ Keeps (· = g) (W.drewN n) w' := by
    intro n
    by_cases hf : freshS first (q * 1000000000 + m) s = true
    · have h1 : stepN first (q * 1000000000 + m) s = 1 := by unfold stepN; rw [if_pos hf]; rfl
      have h2 : stepE p first (q * 1000000000 + m) s = q * 1000000000 + m + p := by unfold stepE; rw [if_pos hf]
      rw [h1, h2]
      refine inc_new g b p _ q m s.n s.e hq0 hq1 hm0 hm1 (by omega) hp1 ?_ _ (hW.drewN n)
      cases first
      · simp [freshS] at hf
        omega
      · simpa using hv
    · have h1 : stepN first (q * 1000000000 + m) s = s.n + 1 := by unfold stepN; rw [if_neg hf]
      have h2 : stepE p first (q * 1000000000 + m) s = s.e := by unfold stepE; rw [if_neg hf]
      rw [h1, h2]
      refine inc_old g b p _ q m s.n s.e hq0 hq1 hm0 hm1 hn0 hn1 ?_ _ (hW.drewN n)
      cases first
      · simp [freshS] at hf hv
        omega
      · simp [freshS] at hf
  unfold outB
  by_cases hle : stepN first (q * 1000000000 + m) s ≤ b
  · rw [if_pos hle, step_pass _ _ _ hle]
    refine (sample_pass g b p _ q m s.n s.e _ _ (by omega) (by omega) hle W hW hinc).mono fun e w' ⟨he, h1, h2⟩ => ⟨he, ⟨h1, ?_⟩, h2.mono fun k hk => .inl hk⟩
    rcases hW2 with h0 | h0
    · exact .inl h0
    · exact .inr (h0.keep h2 fun e => h0.ne hW (by decide) e)
  · rw [if_neg hle, step_ask _ _ _ hle]
    by_cases hnx : nx = 0
    · subst hnx
      rw [next_zero]
      exact (sample_nil g b p q m s.n s.e _ _ (by omega) (by omega) (by omega) W hW hinc).mono fun e w' ⟨he, h1, h2⟩ => ⟨he, ⟨h1, .inl rfl⟩, h2.mono fun k hk => .inl hk⟩
    · have hV : nxV nx g2 = .iface 56 (.pointer (some ⟨g2, 0, none⟩)) := if_neg hnx
      have h0 : Whole W g2 58 (SB nx (cntV nx s.a)) := hW2.resolve_left hnx
      unfold Imp
      rw [hV] at hW hinc ⊢
      by_cases h1 : nx = 1
      · subst h1
        rw [next_one]
        refine (sample_next g g2 _ _ true b p q m s.n s.e _ _ (by omega) (by omega) (by omega) W hW h0 hinc (fun W1 hw => basic_one g2 0 1 W1 hw)).mono fun e w' ⟨he, h1, h2, h3⟩ => ⟨he, ⟨h1, .inr h2⟩, h3⟩
      · have hc : cntV nx s.a = s.a := if_neg h1
        have hc' : cntV nx (s.a + 1) = s.a + 1 := if_neg h1
        rw [hc] at h0
        rw [next_more nx s.a (by omega), hc']
        exact (sample_next g g2 _ _ _ b p q m s.n s.e _ _ (by omega) (by omega) (by omega) W hW h0 hinc (fun W1 hw => basic_more g2 nx s.a 1 (by omega) hx1 ha0 ha1 W1 hw)).mono fun e w' ⟨he, h1, h2, h3⟩ => ⟨he, ⟨h1, .inr h2⟩, h3⟩

theorem imp_now {b p nx : Int} {g g2 : Nat} {x3 x4 x5 x6 : Value} {s : SS} {W : World} (h : Imp b p nx g g2 x3 x4 x5 x6 s W) (y3 y4 y5 y6 : Value) :
    Imp b p nx g g2 y3 y4 y5 y6 s ((((W.setCell ⟨g, 3, none⟩ y3).setCell ⟨g, 4, none⟩ y4).setCell ⟨g, 5, none⟩ y5).setCell ⟨g, 6, none⟩ y6) := by
  obtain ⟨h1, h2⟩ := h
  refine ⟨(((h1.set 3 y3).set 4 y4).set 5 y5).set 6 y6, ?_⟩
  rcases h2 with h2 | h2
  · exact .inl h2
  · have hne : g2 ≠ g := h2.ne h1 (by decide)
    exact .inr ((((h2.far (p := ⟨g, 3, none⟩) hne y3).far (p := ⟨g, 4, none⟩) hne y4).far (p := ⟨g, 5, none⟩) hne y5).far (p := ⟨g, 6, none⟩) hne y6)

theorem imp_keep {b p nx : Int} {g g2 : Nat} {x3 x4 x5 x6 : Value} {s : SS} {S : Nat → Prop} {W W' : World} (h : Imp b p nx g g2 x3 x4 x5 x6 s W) (k : Keeps S W W') (hg : ¬ S g) (hg2 : ¬ S g2) : Imp b p nx g g2 x3 x4 x5 x6 s W' :=
  ⟨h.1.keep k hg, h.2.imp id fun h2 => h2.keep k hg2⟩

/-- Behind a round: what was there ahead of the call stands; the samplers and the row of what passed lie above. -/
def ImpRel (d : Nat) (b p nx : Int) (ts : List Int) (k : Nat) (w wr : World) (v : Value) : Prop :=
  (∃ x3 x4 x5 x6, Imp b p nx w.heap.size (w.heap.size + d) x3 x4 x5 x6 (runS b p nx ts k) wr) ∧ wr.ownsRow (w.heap.size + d + 1) 4 1 v k ((runS b p nx ts k).outs.map Value.bool) ∧ Below w.heap.size w wr ∧ w.heap.size + d + 1 ≤ wr.heap.size

theorem rel_step {d : Nat} {b p nx : Int} {ts : List Int} {k : Nat} {w wr w2 w3 : World} {v v' : Value} {O : Obj} {x3 x4 x5 x6 : Value}
    (h : ImpRel d b p nx ts k w wr v) (h1 : Keeps (fun j => j = w.heap.size ∨ j = w.heap.size + d) wr w2) (hI : Imp b p nx w.heap.size (w.heap.size + d) x3 x4 x5 x6 (runS b p nx ts (k + 1)) w2)
    (ho : w3.ownsRow (w.heap.size + d + 1) 4 1 v' (k + 1) ((runS b p nx ts k).outs.map Value.bool ++ [.bool (outB b nx (k == 0) (ts.getD k 0) (runS b p nx ts k))]))
    (hg : (w2.alloc O).grownBy w3 v.ownBlock) : ImpRel d b p nx ts (k + 1) w w3 v' := by
  obtain ⟨_, h2, h3, h4⟩ := h
  have hv : ∀ j, v.ownBlock = some j → w.heap.size + d + 1 ≤ j := fun j hj => (h2.lt j hj).1
  have hK : Keeps (fun j => v.ownBlock = some j) (w2.alloc O) w3 := Keeps.of_grown hg fun j hj => hj
  have hK2 : Keeps (fun j => v.ownBlock = some j) w2 w3 := ((Keeps.refl _ _).alloc O).trans hK
  refine ⟨⟨x3, x4, x5, x6, imp_keep hI hK2 (fun e => by have := hv _ e; omega) (fun e => by have := hv _ e; omega)⟩, ?_, ?_, ?_⟩
  · rw [runS_succ, step_outs, List.map_append]
    exact ho
  · exact h3.trans ((h1.below h3.size (fun j hj => by omega)).trans ((hK2.mono_new (T := fun j => w.heap.size ≤ j) fun j _ hj => by have := hv j hj; omega).below (Nat.le_trans h3.size h1.size) fun j hj => hj))
  · have := h1.size
    have := hK2.size
    omega

def ImplEnd (b p nx : Int) (ts : List Int) (n : Nat) (w : World) (e : Ending) (w' : World) : Prop :=
  ∃ v, e = .returned v ∧ w'.ownsRow w.heap.size 4 1 v n ((runS b p nx ts n).outs.map Value.bool) ∧ Below w.heap.size w w'
theorem own_less {w : World} {b b' : Nat} {t : TypeId} {s n : Nat} {v : Value} {xs : List Value} (h : w.ownsRow b t s v n xs) (hb : b' ≤ b) : w.ownsRow b' t s v n xs := by
  refine ⟨h.1, ?_⟩
  rcases h.2 with h0 | ⟨g, cap, cur, rfl, h1, rest⟩
  · exact .inl h0
  · exact .inr ⟨g, cap, cur, rfl, by omega, rest⟩

theorem start_more (b p nx : Int) (ts : List Int) (hx : 0 < nx) (w : World) :
    ImpRel 1 b p nx ts 0 w ((w.alloc (.cells #[.int .u32 b, .int .i64 p, .iface 56 (.pointer (some ⟨w.heap.size + 1, 0, none⟩)), .int .i64 0, .int .i32 0, .string ⟨#[]⟩, .int .i64 0, .int .u32 0, .int .i64 0] 55)).alloc (.cells #[.int .u32 nx, .int .u32 0] 58)) (.slice none 0 0) := by
  have hV : nxV nx (w.heap.size + 1) = .iface 56 (.pointer (some ⟨w.heap.size + 1, 0, none⟩)) := if_neg (by omega)
  have hC : cntV nx 0 = 0 := by unfold cntV; split <;> rfl
  refine ⟨⟨.int .i64 0, .int .i32 0, .string ⟨#[]⟩, .int .i64 0, ?_, .inr ?_⟩, World.ownsRow_nil _ _ _ _, by go_grown, by simp⟩
  · rw [hV]
    exact (Whole.new w 55 _).alloc _
  · have h := Whole.new (w.alloc (.cells #[.int .u32 b, .int .i64 p, .iface 56 (.pointer (some ⟨w.heap.size + 1, 0, none⟩)), .int .i64 0, .int .i32 0, .string ⟨#[]⟩, .int .i64 0, .int .u32 0, .int .i64 0] 55)) 58 #[.int .u32 nx, .int .u32 0]
    have e : (w.alloc (.cells #[.int .u32 b, .int .i64 p, .iface 56 (.pointer (some ⟨w.heap.size + 1, 0, none⟩)), .int .i64 0, .int .i32 0, .string ⟨#[]⟩, .int .i64 0, .int .u32 0, .int .i64 0] 55)).heap.size = w.heap.size + 1 := by simp
    rw [e] at h
    show Whole _ _ 58 #[.int .u32 nx, .int .u32 (cntV nx 0)]
    rw [hC]
    exact h

theorem start_zero (b p : Int) (ts : List Int) (w : World) :
    ImpRel 0 b p 0 ts 0 w (w.alloc (.cells #[.int .u32 b, .int .i64 p, .nilIface, .int .i64 0, .int .i32 0, .string ⟨#[]⟩, .int .i64 0, .int .u32 0, .int .i64 0] 55)) (.slice none 0 0) :=
  ⟨⟨.int .i64 0, .int .i32 0, .string ⟨#[]⟩, .int .i64 0, Whole.new w 55 _, .inl rfl⟩, World.ownsRow_nil _ _ _ _, by go_grown, by simp⟩

set_option maxHeartbeats 2000000 in
theorem impl_more (b p nx : Int) (tb o n c : Nat) (ts : List Int) (hb0 : 1 ≤ b) (hp0 : 1 ≤ p) (hp1 : p ≤ 1099511627776) (hx0 : 0 < nx) (hx1 : nx ≤ 20) (hn : n ≤ 60)
    (ht : ∀ i, 0 ≤ ts.getD i 0 ∧ ts.getD i 0 ≤ 1125899906842624) (ht1 : ∀ i, i < n → 1 ≤ ts.getD i 0) (hok : AllOk b p nx ts n) (w : World) (hT : Times w w.heap.size tb o n ts) :
    Calls Tryd.prog 11 #[.int .u32 b, .int .i64 p, .int .u32 nx, .slice (some ⟨tb, o, none⟩) n c] w fun e w' =>
      ImplEnd b p nx ts n w e w' := by
  obtain ⟨i0, hi0, hz0, hz1, hz2⟩ := info_parts Tryd.info4
  have HT := Lib.hid hT
  have HTS := Lib.hid ht
  have HT1 := Lib.hid ht1
  have HOK := Lib.hid hok
  clear hT ht ht1 hok
  have hx0' : 0 ≤ nx := by omega
  have hx1' : nx ≤ 20 := by omega
  go_enter Tryd.func11, Tryd.ntmps11
  go_wp2_with fail
  go_loopw [10, 28] (fun v i wr => ∃ k : Nat, k ≤ n ∧ i = .int .i64 k ∧ ImpRel 1 b p nx ts k w wr v) (fun _ i _ => n - (intOf i).toNat)
  case atStart => exact ⟨0, Nat.zero_le _, rfl, start_more b p nx ts hx0 w⟩
  case round =>
    obtain ⟨k, hk, rfl, hrel⟩ := hrel
    have HR := Lib.hid hrel
    clear hrel
    by_cases hlt : k < n
    · have hcell := (HT.out.below HR.out.2.2.1).2 k hlt
      have t1 := (HTS.out k).2
      have t0 := HT1.out k hlt
      have hbd := bounds (b := b) (nx := nx) hp0 hp1 HTS.out k
      obtain ⟨t, et⟩ : ∃ t, t = ts.getD k 0 := ⟨_, rfl⟩
      rw [← et] at hcell t0 t1
      have HTE := Lib.hid et
      clear et
      go_wp2_with fail
      refine (unix_any t (by omega) t1 wr).mono ?_
      rintro e w1 ⟨rfl, hw1⟩
      obtain ⟨⟨x3, x4, x5, x6, hI⟩, hO, hB, hS⟩ := HR.out
      have hI1 := imp_keep hI (Keeps.of_below hw1 (fun _ => False)) (fun h => h) (fun h => h)
      have c3 : w1.cell? ⟨w.heap.size, 3, none⟩ = some x3 := hI1.1.cell 3
      have c4 : w1.cell? ⟨w.heap.size, 4, none⟩ = some x4 := hI1.1.cell 4
      have c5 : w1.cell? ⟨w.heap.size, 5, none⟩ = some x5 := hI1.1.cell 5
      have c6 : w1.cell? ⟨w.heap.size, 6, none⟩ = some x6 := hI1.1.cell 6
      have f3 := hI1.1.frozen 3
      have f4 := hI1.1.frozen 4
      have f5 := hI1.1.frozen 5
      have f6 := hI1.1.frozen 6
      have HI1 := Lib.hid hI1
      have HW1 := Lib.hid hw1
      have HO := Lib.hid hO
      clear hI hI1 hw1 hO hB
      go_wp2_with fail
      have hv : if (k == 0) then (runS b p nx ts k).e ≤ t / 1000000000 * 1000000000 + t % 1000000000 else t / 1000000000 * 1000000000 + t % 1000000000 ≠ (runS b p nx ts k).e := by
        have ee : t / 1000000000 * 1000000000 + t % 1000000000 = t := by omega
        rw [ee]
        rcases Nat.eq_zero_or_pos k with rfl | hk0
        · simp [runS]; omega
        · have hk1 : (k == 0) = false := by simp; omega
          rw [hk1]
          rcases HOK.out k hlt with h0 | ⟨_, h2⟩
          · omega
          · rw [HTE.out]
            exact h2
      refine (sample_any b p nx w.heap.size (w.heap.size + 1) (t / 1000000000) (t % 1000000000) (k == 0) (runS b p nx ts k) hb0 hp0 hp1 hx0' hx1' (by omega) (by omega) (by omega) (by omega) hbd.2.2.1 (by omega) hbd.2.2.2.2.1 (by omega) hv _ (imp_now HI1.out _ _ _ _)).mono ?_
      rintro e w2 ⟨rfl, hI2, hK2⟩
      have ee : t / 1000000000 * 1000000000 + t % 1000000000 = t := by omega
      rw [ee] at hI2 ⊢
      rw [HTE.out, ← runS_succ] at hI2
      generalize hX : outB b nx (k == 0) t (runS b p nx ts k) = X
      have HX := Lib.hid hX
      have hKA : Keeps (fun j => j = w.heap.size ∨ j = w.heap.size + 1) wr w2 := ((((((Keeps.of_below HW1.out _).set (p := ⟨w.heap.size, 3, none⟩) (.inl (.inl rfl)) _).set (p := ⟨w.heap.size, 4, none⟩) (.inl (.inl rfl)) _).set (p := ⟨w.heap.size, 5, none⟩) (.inl (.inl rfl)) _).set (p := ⟨w.heap.size, 6, none⟩) (.inl (.inl rfl)) _)).trans hK2
      have hO2 := own_keep HO.out hKA (fun g hg => by have := (HO.out.lt g hg).1; omega)
      have hS2 := hKA.size
      have HI2 := Lib.hid hI2
      have HKA := Lib.hid hKA
      have HO2 := Lib.hid hO2
      clear hX hI2 hK2 hKA hO2 hv c3 c4 c5 c6 f3 f4 f5 f6 ee hbd
      go_wp2_with (first
        | (at_builtin; refine wpList_append_own _ rfl _ _ 32 rfl (w.heap.size + 1 + 1) 4 i0 (.bool false) 1 1 Tryd.underlying32 hi0 hz0 hz1 hz2 rfl (by decide) _ _ _ rfl (HO2.out.alloc _) ⟨w2.heap.size, 0, none⟩ 1 1 [.bool X] rfl rfl (cell_one_new _ _ _) (bool_one _) ?c3 ?c4 ?c5 ?_))
      case c3 => unfold maxLen; omega
      case c4 => omega
      case c5 => first | omega | (simp; omega)
      intro v' w3 hown3 hgrow _
      have HO3 := Lib.hid hown3
      have HG := Lib.hid hgrow
      clear hown3 hgrow
      go_wp2
      go_roundw
      case rel =>
        refine ⟨k + 1, by omega, by go_num, rel_step HR.out HKA.out HI2.out ?_ HG.out⟩
        rw [← HTE.out, HX.out]
        exact HO3.out
      case measure => simp [intOf]; omega
    · obtain rfl : k = n := by omega
      go_wp2
      go_ret
      exact ⟨_, rfl, own_less HR.out.2.1 (by omega), HR.out.2.2.1⟩

set_option maxHeartbeats 2000000 in
theorem impl_zero (b p : Int) (tb o n c : Nat) (ts : List Int) (hb0 : 1 ≤ b) (hp0 : 1 ≤ p) (hp1 : p ≤ 1099511627776) (hn : n ≤ 60)
    (ht : ∀ i, 0 ≤ ts.getD i 0 ∧ ts.getD i 0 ≤ 1125899906842624) (ht1 : ∀ i, i < n → 1 ≤ ts.getD i 0) (hok : AllOk b p 0 ts n) (w : World) (hT : Times w w.heap.size tb o n ts) :
    Calls Tryd.prog 11 #[.int .u32 b, .int .i64 p, .int .u32 0, .slice (some ⟨tb, o, none⟩) n c] w fun e w' =>
      ImplEnd b p 0 ts n w e w' := by
  obtain ⟨i0, hi0, hz0, hz1, hz2⟩ := info_parts Tryd.info4
  have HT := Lib.hid hT
  have HTS := Lib.hid ht
  have HT1 := Lib.hid ht1
  have HOK := Lib.hid hok
  clear hT ht ht1 hok
  go_enter Tryd.func11, Tryd.ntmps11
  go_wp2_with fail
  go_loopw [10, 28] (fun v i wr => ∃ k : Nat, k ≤ n ∧ i = .int .i64 k ∧ ImpRel 0 b p 0 ts k w wr v) (fun _ i _ => n - (intOf i).toNat)
  case atStart => exact ⟨0, Nat.zero_le _, rfl, start_zero b p ts w⟩
  case round =>
    obtain ⟨k, hk, rfl, hrel⟩ := hrel
    have HR := Lib.hid hrel
    clear hrel
    by_cases hlt : k < n
    · have hcell := (HT.out.below HR.out.2.2.1).2 k hlt
      have t1 := (HTS.out k).2
      have t0 := HT1.out k hlt
      have hbd := bounds (b := b) (nx := 0) hp0 hp1 HTS.out k
      obtain ⟨t, et⟩ : ∃ t, t = ts.getD k 0 := ⟨_, rfl⟩
      rw [← et] at hcell t0 t1
      have HTE := Lib.hid et
      clear et
      go_wp2_with fail
      refine (unix_any t (by omega) t1 wr).mono ?_
      rintro e w1 ⟨rfl, hw1⟩
      obtain ⟨⟨x3, x4, x5, x6, hI⟩, hO, hB, hS⟩ := HR.out
      have hI1 := imp_keep hI (Keeps.of_below hw1 (fun _ => False)) (fun h => h) (fun h => h)
      have c3 : w1.cell? ⟨w.heap.size, 3, none⟩ = some x3 := hI1.1.cell 3
      have c4 : w1.cell? ⟨w.heap.size, 4, none⟩ = some x4 := hI1.1.cell 4
      have c5 : w1.cell? ⟨w.heap.size, 5, none⟩ = some x5 := hI1.1.cell 5
      have c6 : w1.cell? ⟨w.heap.size, 6, none⟩ = some x6 := hI1.1.cell 6
      have f3 := hI1.1.frozen 3
      have f4 := hI1.1.frozen 4
      have f5 := hI1.1.frozen 5
      have f6 := hI1.1.frozen 6
      have HI1 := Lib.hid hI1
      have HW1 := Lib.hid hw1
      have HO := Lib.hid hO
      clear hI hI1 hw1 hO hB
      go_wp2_with fail
      have hv : if (k == 0) then (runS b p 0 ts k).e ≤ t / 1000000000 * 1000000000 + t % 1000000000 else t / 1000000000 * 1000000000 + t % 1000000000 ≠ (runS b p 0 ts k).e := by
        have ee : t / 1000000000 * 1000000000 + t % 1000000000 = t := by omega
        rw [ee]
        rcases Nat.eq_zero_or_pos k with rfl | hk0
        · simp [runS]; omega
        · have hk1 : (k == 0) = false := by simp; omega
          rw [hk1]
          rcases HOK.out k hlt with h0 | ⟨_, h2⟩
          · omega
          · rw [HTE.out]
            exact h2
      refine (sample_any b p 0 w.heap.size (w.heap.size + 0) (t / 1000000000) (t % 1000000000) (k == 0) (runS b p 0 ts k) hb0 hp0 hp1 (by omega) (by omega) (by omega) (by omega) (by omega) (by omega) hbd.2.2.1 (by omega) hbd.2.2.2.2.1 (by omega) hv _ (imp_now HI1.out _ _ _ _)).mono ?_
      rintro e w2 ⟨rfl, hI2, hK2⟩
      have ee : t / 1000000000 * 1000000000 + t % 1000000000 = t := by omega
      rw [ee] at hI2 ⊢
      rw [HTE.out, ← runS_succ] at hI2
      generalize hX : outB b 0 (k == 0) t (runS b p 0 ts k) = X
      have HX := Lib.hid hX
      have hKA : Keeps (fun j => j = w.heap.size ∨ j = w.heap.size + 0) wr w2 := ((((((Keeps.of_below HW1.out _).set (p := ⟨w.heap.size, 3, none⟩) (.inl (.inl rfl)) _).set (p := ⟨w.heap.size, 4, none⟩) (.inl (.inl rfl)) _).set (p := ⟨w.heap.size, 5, none⟩) (.inl (.inl rfl)) _).set (p := ⟨w.heap.size, 6, none⟩) (.inl (.inl rfl)) _)).trans hK2
      have hO2 := own_keep HO.out hKA (fun g hg => by have := (HO.out.lt g hg).1; omega)
      have hS2 := hKA.size
      have HI2 := Lib.hid hI2
      have HKA := Lib.hid hKA
      have HO2 := Lib.hid hO2
      clear hX hI2 hK2 hKA hO2 hv c3 c4 c5 c6 f3 f4 f5 f6 ee hbd
      go_wp2_with (first
        | (at_builtin; refine wpList_append_own _ rfl _ _ 32 rfl (w.heap.size + 0 + 1) 4 i0 (.bool false) 1 1 Tryd.underlying32 hi0 hz0 hz1 hz2 rfl (by decide) _ _ _ rfl (HO2.out.alloc _) ⟨w2.heap.size, 0, none⟩ 1 1 [.bool X] rfl rfl (cell_one_new _ _ _) (bool_one _) ?c3 ?c4 ?c5 ?_))
      case c3 => unfold maxLen; omega
      case c4 => omega
      case c5 => first | omega | (simp; omega)
      intro v' w3 hown3 hgrow _
      have HO3 := Lib.hid hown3
      have HG := Lib.hid hgrow
      clear hown3 hgrow
      go_wp2
      go_roundw
      case rel =>
        refine ⟨k + 1, by omega, by go_num, rel_step HR.out HKA.out HI2.out ?_ HG.out⟩
        rw [← HTE.out, HX.out]
        exact HO3.out
      case measure => simp [intOf]; omega
    · obtain rfl : k = n := by omega
      go_wp2
      go_ret
      exact ⟨_, rfl, own_less HR.out.2.1 (by omega), HR.out.2.2.1⟩

set_option maxRecDepth 100000 in
set_option maxHeartbeats 400000 in
theorem spec_none (b p nx : Int) (A : Option Addr) (c : Nat) (w : World) :
    Calls Tryd.prog 10 #[.int .u32 b, .int .i64 p, .int .u32 nx, .slice A 0 c] w fun e w' => e = .returned (.tuple #[.slice none 0 0, .bool true]) ∧ Below w.heap.size w w' := by
  go_enter Tryd.func10, Tryd.ntmps10
  go_wp2
  go_rounds 1
  go_ret2
  exact ⟨rfl, by go_grown⟩

set_option maxHeartbeats 400000 in
theorem impl_none (b p nx : Int) (A : Option Addr) (c : Nat) (w : World) :
    Calls Tryd.prog 11 #[.int .u32 b, .int .i64 p, .int .u32 nx, .slice A 0 c] w fun e w' => e = .returned (.slice none 0 0) ∧ Below w.heap.size w w' := by
  by_cases hx : 0 < nx
  all_goals
    go_enter Tryd.func11, Tryd.ntmps11
    go_wp2
    go_rounds 1
    go_ret
    exact ⟨rfl, by go_grown⟩
end Go.Proofs.YtdpjkhbjkgkjiaaDoor
