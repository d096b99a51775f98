/- The reference of FnLogBurst: what LBursts answers. -/
import Derived.Test.YtdpjkhbjkgkjiaaDoorBurA
import Derived.Test.YtdpjkhbjkgkjiaaDoorBurP
import Derived.Deep.DeepCutAuto
namespace Go.Proofs.YtdpjkhbjkgkjiaaDoor
open Go.RowKit

theorem Tryd.info4 : (Tryd.prog.info? 4).map (fun i => (i.zero, i.size, i.bytes)) = some (some (.bool false), 1, 1) := by kernel_rfl

/-- The times of a slice that came in. -/
def Times (w : World) (B : Nat) (tb o n : Nat) (ts : List Int) : Prop := tb < B ∧ ∀ i, i < n → w.cell? ⟨tb, o + i, none⟩ = some (.int .i64 (ts.getD i 0))
theorem Times.below {w w' : World} {B tb o n : Nat} {ts : List Int} (h : Times w B tb o n ts) (hb : Below B w w') : Times w' B tb o n ts := ⟨h.1, fun i hi => (hb.cell (p := ⟨tb, o + i, none⟩) h.1).trans (h.2 i hi)⟩

/-- All events may follow those ahead of them. -/
def AllOk (b p nx : Int) (ts : List Int) (n : Nat) : Prop := ∀ k, k < n → okS b p nx ts k
/-- What the reference answers. -/
def SpecEnd (b p nx : Int) (ts : List Int) (n : Nat) (w : World) (e : Ending) (w' : World) : Prop :=
  (AllOk b p nx ts n ∧ ∃ v, e = .returned (.tuple #[v, .bool true]) ∧ w'.ownsRow w.heap.size 4 1 v n ((runS b p nx ts n).outs.map Value.bool) ∧ Below w.heap.size w w') ∨
    (¬ AllOk b p nx ts n ∧ e = .returned (.tuple #[.slice none 0 0, .bool false]) ∧ Below w.heap.size w w')

theorem app_step {w wr w1 : World} {u v' : Value} {k : Nat} {outs : List Bool} {x : Bool} {O : Obj} (hB : Below w.heap.size w wr) (hO : wr.ownsRow w.heap.size 4 1 u k (outs.map Value.bool))
    (h1 : w1.ownsRow w.heap.size 4 1 v' (k + 1) (outs.map Value.bool ++ [.bool x])) (hg : (wr.alloc O).grownBy w1 u.ownBlock) :
    w1.ownsRow w.heap.size 4 1 v' (k + 1) ((outs ++ [x]).map Value.bool) ∧ Below w.heap.size w w1 := by
  refine ⟨by rw [List.map_append]; exact h1, (hB.alloc hB.size O).grown hg (by have := hB.size; simp; omega) fun j hj => (hO.lt j hj).1⟩

theorem bool_one (x : Bool) : ∀ u ∈ [Value.bool x], u.oneCell' = true := by
  intro u hu
  simp at hu
  subst hu
  rfl

set_option maxRecDepth 100000 in
set_option maxHeartbeats 4000000 in
theorem spec_walk (b p nx : Int) (tb o n c : Nat) (ts : List Int) (hb0 : 1 ≤ b) (hb1 : b ≤ 20) (hp0 : 1 ≤ p) (hp1 : p ≤ 1099511627776) (hx0 : 0 ≤ nx) (hx1 : nx ≤ 20) (hn : n ≤ 60)
    (ht : ∀ i, 0 ≤ ts.getD i 0 ∧ ts.getD i 0 ≤ 1125899906842624) (w : World) (hT : Times w w.heap.size tb o n ts) :
    Calls Tryd.prog 10 #[.int .u32 b, .int .i64 p, .int .u32 nx, .slice (some ⟨tb, o, none⟩) n c] w fun e w' =>
      SpecEnd b p nx ts n w e w' := by
  obtain ⟨i0, hi0, hz0, hz1, hz2⟩ := info_parts Tryd.info4
  have HT := Lib.hid hT
  have HTS := Lib.hid ht
  clear hT ht
  go_enter Tryd.func10, Tryd.ntmps10
  go_wp2_with fail
  go_loopw [10, 11, 12, 13, 18] (fun v e m a i wr => ∃ k : Nat, k ≤ n ∧ i = .int .i64 k ∧ e = .int .i64 (runS b p nx ts k).e ∧ m = .int .u32 (runS b p nx ts k).n ∧ a = .int .u32 (runS b p nx ts k).a ∧ (∀ j, j < k → okS b p nx ts j) ∧
      wr.ownsRow w.heap.size 4 1 v k ((runS b p nx ts k).outs.map Value.bool) ∧ Below w.heap.size w wr) (fun _ _ _ _ i _ => n - (intOf i).toNat)
  case atStart => exact ⟨0, Nat.zero_le _, rfl, rfl, rfl, rfl, fun _ h => absurd h (Nat.not_lt_zero _), World.ownsRow_nil _ _ _ _, Below.refl _ _⟩
  case round =>
    obtain ⟨k, hk, rfl, rfl, rfl, rfl, hall, hown, hB⟩ := hrel
    by_cases hlt : k < n
    · have hcell := (HT.out.below hB).2 k hlt
      obtain ⟨t0, t1⟩ := HTS.out k
      have hbd := bounds (b := b) (nx := nx) hp0 hp1 HTS.out k
      have HA := Lib.hid hall
      have HO := Lib.hid hown
      have HB := Lib.hid hB
      have hsz := hB.size
      obtain ⟨t, et⟩ : ∃ t, t = ts.getD k 0 := ⟨_, rfl⟩
      rw [← et] at hcell t0 t1
      have HTE := Lib.hid et
      clear et hall hB
      generalize hE : (runS b p nx ts k).e = E at hbd ⊢
      generalize hN : (runS b p nx ts k).n = N at hbd ⊢
      generalize hA : (runS b p nx ts k).a = A at hbd ⊢
      obtain ⟨e0, e1, n0, n1, a0, a1⟩ := hbd
      have HE := Lib.hid hE
      have HN := Lib.hid hN
      have HAA := Lib.hid hA
      clear hE hN hA
      have HBoth := Lib.hid hown
      clear hown
      rcases Nat.lt_or_ge 0 k with hkpos | hk0
      · have hcp := (HT.out.below HB.out).2 (k - 1) (by omega)
        obtain ⟨pv, epv⟩ : ∃ pv, pv = ts.getD (k - 1) 0 := ⟨_, rfl⟩
        rw [← epv] at hcp
        have HPV := Lib.hid epv
        clear epv
        have hix : ((k : Int) - 1).toNat = k - 1 := by omega
        have hcp2 : wr.cell? ⟨tb, o + ((k : Int) - 1).toNat, none⟩ = some (.int .i64 pv) := by rw [hix]; exact hcp
        clear hix
        by_cases hlow : t < pv
        · go_wp2
          go_ret2
          exact .inr ⟨fun h => by
            rcases h k hlt with h0 | ⟨h1, h2⟩
            · omega
            · rw [← HTE.out] at h1 h2
              rw [← HPV.out] at h1; omega, rfl, HB.out⟩
        · by_cases heq : t = E
          · have hq : (t == E) = true := by simp [heq]
            have HEQ := Lib.hid heq
            clear heq
            go_wp2
            go_ret2
            exact .inr ⟨fun h => by
              rcases h k hlt with h0 | ⟨h1, h2⟩
              · omega
              · rw [← HTE.out] at h1 h2
                rw [HE.out] at h2; exact h2 HEQ.out, rfl, HB.out⟩
          · have hq : (t == E) = false := by simp [heq]
            have HOK := Lib.hid (show okS b p nx ts k from .inr ⟨by rw [← HTE.out, ← HPV.out]; omega, by rw [← HTE.out, HE.out]; exact heq⟩)
            by_cases hfr : E < t
            · go_wp2_with (first
                | (at_builtin; refine wpList_append_own _ rfl _ _ 32 rfl w.heap.size 4 i0 (.bool false) 1 1 Tryd.underlying32 hi0 hz0 hz1 hz2 rfl (by decide) _ _ _ rfl (HO.out.alloc _) ⟨wr.heap.size, 0, none⟩ 1 1 [.bool true] rfl rfl (cell_one_new _ _ _) (bool_one _) ?c3 ?c4 ?c5 ?_))
              case c3 => unfold maxLen; omega
              case c4 => omega
              case c5 => first | omega | (simp; omega)
              intro v' w1 hown1 hgrow _
              have HO1 := Lib.hid hown1
              have HG := Lib.hid hgrow
              clear hown1 hgrow
              go_wp2
              go_roundw
              case rel =>
                obtain ⟨q1, q2⟩ := app_step HB.out HO.out HO1.out HG.out
                have hk0 : (k == 0) = false := by simp; omega
                have hst : stepS b p nx false t (runS b p nx ts k) = ⟨t + p, 1, A, (runS b p nx ts k).outs ++ [true]⟩ := by
                  have hf : freshS false t (runS b p nx ts k) = true := by simp [freshS, HE.out, hfr]
                  rw [step_pass _ _ _ (by unfold stepN; rw [if_pos hf]; omega)]
                  unfold stepE stepN
                  rw [if_pos hf, if_pos hf, HAA.out]
                  rfl
                refine ⟨k + 1, by omega, by go_num, ?_, ?_, ?_, ?_, ?_, q2⟩
                · rw [runS_succ, hk0, ← HTE.out, hst]
                · rw [runS_succ, hk0, ← HTE.out, hst]
                · rw [runS_succ, hk0, ← HTE.out, hst]
                · intro j hj
                  rcases Nat.lt_or_ge j k with hjk | hjk
                  · exact HA.out j hjk
                  · obtain rfl : j = k := by omega
                    exact HOK.out
                · rw [runS_succ, hk0, ← HTE.out, hst]; exact q1
              case measure => simp [intOf]; omega
            · have hlt2 : t < E := by omega
              by_cases hpass : N + 1 ≤ b
              · go_wp2_with (first
                  | (at_builtin; refine wpList_append_own _ rfl _ _ 32 rfl w.heap.size 4 i0 (.bool false) 1 1 Tryd.underlying32 hi0 hz0 hz1 hz2 rfl (by decide) _ _ _ rfl (HO.out.alloc _) ⟨wr.heap.size, 0, none⟩ 1 1 [.bool true] rfl rfl (cell_one_new _ _ _) (bool_one _) ?c3 ?c4 ?c5 ?_))
                case c3 => unfold maxLen; omega
                case c4 => omega
                case c5 => first | omega | (simp; omega)
                intro v' w1 hown1 hgrow _
                have HO1 := Lib.hid hown1
                have HG := Lib.hid hgrow
                clear hown1 hgrow
                go_wp2
                go_roundw
                case rel =>
                  obtain ⟨q1, q2⟩ := app_step HB.out HO.out HO1.out HG.out
                  have hk0 : (k == 0) = false := by simp; omega
                  have hst : stepS b p nx false t (runS b p nx ts k) = ⟨E, N + 1, A, (runS b p nx ts k).outs ++ [true]⟩ := by
                    have hf : ¬ freshS false t (runS b p nx ts k) = true := by simp [freshS, HE.out]; omega
                    rw [step_pass _ _ _ (by unfold stepN; rw [if_neg hf, HN.out]; omega)]
                    unfold stepE stepN
                    rw [if_neg hf, if_neg hf, HAA.out, HE.out, HN.out]
                  refine ⟨k + 1, by omega, by go_num, ?_, ?_, ?_, ?_, ?_, q2⟩
                  · rw [runS_succ, hk0, ← HTE.out, hst]
                  · rw [runS_succ, hk0, ← HTE.out, hst]
                  · rw [runS_succ, hk0, ← HTE.out, hst]
                  · intro j hj
                    rcases Nat.lt_or_ge j k with hjk | hjk
                    · exact HA.out j hjk
                    · obtain rfl : j = k := by omega
                      exact HOK.out
                  · rw [runS_succ, hk0, ← HTE.out, hst]; exact q1
                case measure => simp [intOf]; omega
              · by_cases hx : 0 < nx
                · have hmx : max nx 1 = nx := by omega
                  go_wp2_with (first
                    | (at_builtin; refine wpList_append_own _ rfl _ _ 32 rfl w.heap.size 4 i0 (.bool false) 1 1 Tryd.underlying32 hi0 hz0 hz1 hz2 rfl (by decide) _ _ _ rfl (HO.out.alloc _) ⟨wr.heap.size, 0, none⟩ 1 1 [.bool (A % nx == 0)] rfl rfl (cell_one_new _ _ _) (bool_one _) ?c3 ?c4 ?c5 ?_))
                  case c3 => unfold maxLen; omega
                  case c4 => omega
                  case c5 => first | omega | (simp; omega)
                  intro v' w1 hown1 hgrow _
                  have HO1 := Lib.hid hown1
                  have HG := Lib.hid hgrow
                  clear hown1 hgrow
                  go_wp2
                  go_roundw
                  case rel =>
                    obtain ⟨q1, q2⟩ := app_step HB.out HO.out HO1.out HG.out
                    have hk0 : (k == 0) = false := by simp; omega
                    have hst : stepS b p nx false t (runS b p nx ts k) = ⟨E, N + 1, A + 1, (runS b p nx ts k).outs ++ [A % nx == 0]⟩ := by
                      have hf : ¬ freshS false t (runS b p nx ts k) = true := by simp [freshS, HE.out]; omega
                      rw [step_ask _ _ _ (by unfold stepN; rw [if_neg hf, HN.out]; omega)]
                      unfold stepE stepN nextB
                      rw [if_neg hf, if_neg hf, HAA.out, HE.out, HN.out, show max nx 1 = nx by omega]
                      simp [hx]
                    refine ⟨k + 1, by omega, by go_num, ?_, ?_, ?_, ?_, ?_, q2⟩
                    · rw [runS_succ, hk0, ← HTE.out, hst]
                    · rw [runS_succ, hk0, ← HTE.out, hst]
                    · rw [runS_succ, hk0, ← HTE.out, hst]
                    · intro j hj
                      rcases Nat.lt_or_ge j k with hjk | hjk
                      · exact HA.out j hjk
                      · obtain rfl : j = k := by omega
                        exact HOK.out
                    · rw [runS_succ, hk0, ← HTE.out, hst]; exact q1
                  case measure => simp [intOf]; omega
                · have hx0 : nx ≤ 0 := by omega
                  go_wp2_with (first
                    | (at_builtin; refine wpList_append_own _ rfl _ _ 32 rfl w.heap.size 4 i0 (.bool false) 1 1 Tryd.underlying32 hi0 hz0 hz1 hz2 rfl (by decide) _ _ _ rfl (HO.out.alloc _) ⟨wr.heap.size, 0, none⟩ 1 1 [.bool false] rfl rfl (cell_one_new _ _ _) (bool_one _) ?c3 ?c4 ?c5 ?_))
                  case c3 => unfold maxLen; omega
                  case c4 => omega
                  case c5 => first | omega | (simp; omega)
                  intro v' w1 hown1 hgrow _
                  have HO1 := Lib.hid hown1
                  have HG := Lib.hid hgrow
                  clear hown1 hgrow
                  go_wp2
                  go_roundw
                  case rel =>
                    obtain ⟨q1, q2⟩ := app_step HB.out HO.out HO1.out HG.out
                    have hk0 : (k == 0) = false := by simp; omega
                    have hst : stepS b p nx false t (runS b p nx ts k) = ⟨E, N + 1, A + 1, (runS b p nx ts k).outs ++ [false]⟩ := by
                      have hf : ¬ freshS false t (runS b p nx ts k) = true := by simp [freshS, HE.out]; omega
                      rw [step_ask _ _ _ (by unfold stepN; rw [if_neg hf, HN.out]; omega)]
                      unfold stepE stepN nextB
                      rw [if_neg hf, if_neg hf, HAA.out, HE.out, HN.out, show decide (0 < nx) = false by simp; omega]
                      rfl
                    refine ⟨k + 1, by omega, by go_num, ?_, ?_, ?_, ?_, ?_, q2⟩
                    · rw [runS_succ, hk0, ← HTE.out, hst]
                    · rw [runS_succ, hk0, ← HTE.out, hst]
                    · rw [runS_succ, hk0, ← HTE.out, hst]
                    · intro j hj
                      rcases Nat.lt_or_ge j k with hjk | hjk
                      · exact HA.out j hjk
                      · obtain rfl : j = k := by omega
                        exact HOK.out
                    · rw [runS_succ, hk0, ← HTE.out, hst]; exact q1
                  case measure => simp [intOf]; omega
      · go_wp2_with (first
          | (at_builtin; refine wpList_append_own _ rfl _ _ 32 rfl w.heap.size 4 i0 (.bool false) 1 1 Tryd.underlying32 hi0 hz0 hz1 hz2 rfl (by decide) _ _ _ rfl (HO.out.alloc _) ⟨wr.heap.size, 0, none⟩ 1 1 [.bool true] rfl rfl (cell_one_new _ _ _) (bool_one _) ?c3 ?c4 ?c5 ?_))
        case c3 => unfold maxLen; omega
        case c4 => omega
        case c5 => first | omega | (simp; omega)
        intro v' w1 hown1 hgrow _
        have HO1 := Lib.hid hown1
        have HG := Lib.hid hgrow
        clear hown1 hgrow
        go_wp2
        go_roundw
        case rel =>
          obtain rfl : k = 0 := by omega
          obtain ⟨q1, q2⟩ := app_step HB.out HO.out HO1.out HG.out
          have hst : stepS b p nx (0 == 0) t (runS b p nx ts 0) = ⟨t + p, 1, 0, [] ++ [true]⟩ := by
            rw [step_pass _ _ _ (by simp [stepN, freshS]; omega)]
            simp [stepE, stepN, freshS, runS]
          rw [HTE.out] at hst
          refine ⟨1, by omega, by go_num, ?_, ?_, ?_, ?_, ?_, q2⟩
          · rw [runS_succ, hst, HTE.out]
          · rw [runS_succ, hst]
          · rw [runS_succ, hst, ← HAA.out]; rfl
          · intro j hj
            exact .inl (by omega)
          · rw [runS_succ, hst]; exact q1
        case measure => simp [intOf]; omega
    · obtain rfl : k = n := by omega
      have HA := Lib.hid hall
      have HO := Lib.hid hown
      have HB := Lib.hid hB
      clear hall hown hB
      go_wp2
      go_ret2
      exact .inl ⟨HA.out, _, rfl, HO.out, HB.out⟩
end Go.Proofs.YtdpjkhbjkgkjiaaDoor
