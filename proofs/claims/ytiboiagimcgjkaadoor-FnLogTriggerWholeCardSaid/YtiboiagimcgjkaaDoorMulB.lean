/- Several writers at once: the walk of the multi writer's WriteLevel. -/
import Derived.Test.YtiboiagimcgjkaaDoorMulA
import Derived.LoopTactic
namespace Go.Proofs.YtiboiagimcgjkaaDoor
open Go.RowKit

theorem Keeps.trans_old {S T : Nat → Prop} {a b c : World} (h : Keeps S a b) (k : Keeps T b c) (hT : ∀ i, i < a.heap.size → T i → S i) : Keeps S a c :=
  ⟨k.os.trans h.os, k.tape.trans h.tape, k.output.trans h.output, Nat.le_trans h.size k.size, fun i hi hn => (k.block i (Nat.lt_of_lt_of_le hi h.size) (fun ht => hn (hT i hi ht))).trans (h.block i hi hn)⟩
/-- Block g is a row of cells of type t. -/
def Typed (w : World) (g : Nat) (t : TypeId) : Prop := ∃ cs f, w.heap[g]? = some (.cells cs t f)
theorem Typed.ne {w : World} {g h : Nat} {t u : TypeId} (a : Typed w g t) (b : Typed w h u) (hne : t ≠ u) : g ≠ h := by
  rintro rfl
  obtain ⟨_, _, a⟩ := a
  obtain ⟨_, _, b⟩ := b
  rw [a] at b
  injection b with b
  injection b with _ b
  exact hne b
theorem Typed.keep {S : Nat → Prop} {w w' : World} {g : Nat} {t : TypeId} (h : Typed w g t) (k : Keeps S w w') (hg : ¬ S g) : Typed w' g t := by
  obtain ⟨cs, f, h⟩ := h
  exact ⟨cs, f, (k.block g (Array.getElem?_eq_some_iff.1 h).1 hg).trans h⟩
theorem Typed.lt {w : World} {g : Nat} {t : TypeId} (h : Typed w g t) : g < w.heap.size := by
  obtain ⟨cs, f, h⟩ := h
  exact (Array.getElem?_eq_some_iff.1 h).1
theorem Whole.typed {w : World} {g : Nat} {t : TypeId} {cs : Array Value} (h : Whole w g t cs) : Typed w g t := ⟨cs, _, h⟩
theorem LinesAt.typed {w : World} {base L : Nat} {rows : List (List UInt8)} {ob : Option Nat} (h : LinesAt w base L rows ob) : Typed w L 42 := by
  obtain ⟨v, h1, _⟩ := h
  exact h1.typed
theorem LinesAt.row {w : World} {base L : Nat} {rows : List (List UInt8)} {ob : Option Nat} (h : LinesAt w base L rows ob) {g : Nat} (hg : ob = some g) : Typed w g 9 ∧ base ≤ g := by
  obtain ⟨v, _, h2, h3, _⟩ := h
  rw [hg] at h3
  rcases h2.2 with ⟨rfl, _⟩ | ⟨b, cap, cur, rfl, hb, hgg, _⟩
  · cases h3
  · injection h3 with h3
    subst h3
    exact ⟨⟨_, _, hgg⟩, hb⟩

theorem Typed.back {S : Nat → Prop} {w w' : World} {g : Nat} {t : TypeId} (h : Typed w' g t) (k : Keeps S w w') (hg : g < w.heap.size) (hn : ¬ S g) : Typed w g t := by
  obtain ⟨cs, f, h⟩ := h
  exact ⟨cs, f, (k.block g hg hn).symm.trans h⟩
/-- What writers may turn. -/
def Turns (w : World) (g : Nat) : Prop := Typed w g 42 ∨ Typed w g 9
theorem Turns.back {w w' : World} (k : Keeps (Turns w) w w') {g : Nat} (hg : g < w.heap.size) (h : Turns w' g) : Turns w g := by
  by_cases hn : Turns w g
  · exact hn
  · rcases h with h | h
    · exact .inl (h.back k hg hn)
    · exact .inr (h.back k hg hn)
/-- n filters (blocks F), each before a collector (blocks L) of its own: what they hold, the blocks of their rows. -/
structure Sys (w : World) (base n : Nat) (F L : Nat → Nat) (lo : Nat → Int) (rows : Nat → List (List UInt8)) (ob : Nat → Option Nat) : Prop where
  flt : ∀ i, i < n → FltAt w (F i) (L i) (lo i)
  lin : ∀ i, i < n → LinesAt w base (L i) (rows i) (ob i)
  dL : ∀ i j, i < n → j < n → i ≠ j → L i ≠ L j
  dO : ∀ i j, i < n → j < n → i ≠ j → ∀ g, ob i = some g → ob j ≠ some g
  bL : ∀ i, i < n → base ≤ L i
/-- The list of the filters. -/
def WsAt (w : World) (W n : Nat) (F : Nat → Nat) : Prop := ∃ cs, Whole w W 51 cs ∧ ∀ i, i < n → cs[i]? = some (.iface 43 (.pointer (some ⟨F i, 0, none⟩)))
theorem WsAt.cell {w : World} {W n : Nat} {F : Nat → Nat} (h : WsAt w W n F) (i : Nat) (hi : i < n) : w.cell? ⟨W, i, none⟩ = some (.iface 43 (.pointer (some ⟨F i, 0, none⟩))) := by
  obtain ⟨cs, hw, hc⟩ := h
  rw [hw.cell, hc i hi]
theorem WsAt.keep {S : Nat → Prop} {w w' : World} {W n : Nat} {F : Nat → Nat} (h : WsAt w W n F) (k : Keeps S w w') (hg : ¬ S W) : WsAt w' W n F := by
  obtain ⟨cs, hw, hc⟩ := h
  exact ⟨cs, hw.keep k hg, hc⟩
theorem Sys.keep {S : Nat → Prop} {w w' : World} {base n : Nat} {F L : Nat → Nat} {lo : Nat → Int} {rows : Nat → List (List UInt8)} {ob : Nat → Option Nat} (h : Sys w base n F L lo rows ob) (k : Keeps S w w')
    (hF : ∀ i, i < n → ¬ S (F i)) (hL : ∀ i, i < n → ¬ S (L i)) (hO : ∀ i, i < n → ∀ g, ob i = some g → ¬ S g) : Sys w' base n F L lo rows ob :=
  ⟨fun i hi => (h.flt i hi).keep k (hF i hi), fun i hi => (h.lin i hi).keep k (hL i hi) (hO i hi), h.dL, h.dO, h.bL⟩
theorem Sys.later {w w' : World} {base n : Nat} {F L : Nat → Nat} {lo : Nat → Int} {rows : Nat → List (List UInt8)} {ob : Nat → Option Nat} (h : Sys w base n F L lo rows ob) (k : Keeps (fun _ => False) w w') : Sys w' base n F L lo rows ob :=
  h.keep k (fun _ _ => id) (fun _ _ => id) (fun _ _ _ _ => id)
/-- One collector has been written. -/
theorem Sys.wrote {w w' : World} {base n : Nat} {F L : Nat → Nat} {lo : Nat → Int} {rows : Nat → List (List UInt8)} {ob : Nat → Option Nat} {l : List UInt8} {k : Nat} (h : Sys w base n F L lo rows ob) (hk : k < n) (hw : Wrote w base (L k) (rows k ++ [l]) (ob k) w') :
    ∃ ob', Sys w' base n F L lo (fun i => if i = k then rows i ++ [l] else rows i) ob' ∧ Below base w w' ∧ Keeps (Turns w) w w' := by
  obtain ⟨ob1, hl, hor, hk2⟩ := hw
  have tL := (h.lin k hk).typed
  have hcut : ∀ g, (g = L k ∨ ob k = some g) → Typed w g 42 ∨ Typed w g 9 := fun g hg => by
    rcases hg with rfl | hg
    · exact .inl tL
    · exact .inr ((h.lin k hk).row hg).1
  refine ⟨fun i => if i = k then ob1 else ob i, ⟨fun i hi => ?_, fun i hi => ?_, h.dL, fun i j hi hj hij g hg => ?_, h.bL⟩, ?_, hk2.mono hcut⟩
  · refine (h.flt i hi).keep hk2 fun hs => ?_
    rcases hcut _ hs with ht | ht
    · exact (h.flt i hi).typed.ne ht (by decide) rfl
    · exact (h.flt i hi).typed.ne ht (by decide) rfl
  · by_cases hik : i = k
    · subst hik
      rw [if_pos rfl, if_pos rfl]
      exact hl
    · rw [if_neg hik, if_neg hik]
      refine (h.lin i hi).keep hk2 (fun hs => ?_) (fun g hg hs => ?_)
      · rcases hs with hs | hs
        · exact h.dL i k hi hk hik hs
        · exact (h.lin i hi).typed.ne ((h.lin k hk).row hs).1 (by decide) rfl
      · rcases hs with rfl | hs
        · exact tL.ne ((h.lin i hi).row hg).1 (by decide) rfl
        · exact h.dO i k hi hk hik g hg hs
  · by_cases hik : i = k
    · subst hik
      rw [if_pos rfl] at hg
      rw [if_neg (fun e => hij e.symm)]
      rcases hor with ho | ⟨g', ho, hge⟩
      · rw [ho] at hg
        exact h.dO i j hi hj hij g hg
      · rw [ho] at hg
        injection hg with hg
        subst hg
        intro hj'
        have := ((h.lin j hj).row hj').1.lt
        omega
    · rw [if_neg hik] at hg
      by_cases hjk : j = k
      · subst hjk
        rw [if_pos rfl]
        rcases hor with ho | ⟨g', ho, hge⟩
        · rw [ho]
          exact h.dO i j hi hj hij g hg
        · rw [ho]
          intro he
          injection he with he
          subst he
          have := ((h.lin i hi).row hg).1.lt
          omega
      · rw [if_neg hjk]
        exact h.dO i j hi hj hij g hg
  · have hb := h.bL k hk
    have hlt := tL.lt
    refine hk2.below (by omega) fun g hg => ?_
    rcases hg with rfl | hg
    · exact hb
    · exact ((h.lin k hk).row hg).2

/-- What the writers hold behind a line: those up to the i-th have it, if its level is theirs or above. -/
def hold (lo : Nat → Int) (lv : Int) (l : List UInt8) (rows : Nat → List (List UInt8)) (i : Nat) : Nat → List (List UInt8) := fun j => if j < i ∧ lo j ≤ lv then rows j ++ [l] else rows j
theorem hold_no {lo : Nat → Int} {lv : Int} {l : List UInt8} {rows : Nat → List (List UInt8)} {i : Nat} (h : lv < lo i) : hold lo lv l rows (i + 1) = hold lo lv l rows i := by
  funext j
  unfold hold
  by_cases hj : j = i
  · subst hj
    rw [if_neg (by omega), if_neg (by omega)]
  · by_cases hc : j < i ∧ lo j ≤ lv
    · rw [if_pos hc, if_pos ⟨by omega, hc.2⟩]
    · rw [if_neg hc, if_neg (by omega)]
theorem hold_yes {lo : Nat → Int} {lv : Int} {l : List UInt8} {rows : Nat → List (List UInt8)} {i : Nat} (h : lo i ≤ lv) : hold lo lv l rows (i + 1) = fun j => if j = i then hold lo lv l rows i j ++ [l] else hold lo lv l rows i j := by
  funext j
  unfold hold
  by_cases hj : j = i
  · subst hj
    rw [if_pos ⟨by omega, h⟩, if_pos rfl, if_neg (by omega)]
  · rw [if_neg hj]
    by_cases hc : j < i ∧ lo j ≤ lv
    · rw [if_pos hc, if_pos ⟨by omega, hc.2⟩]
    · rw [if_neg hc, if_neg (by omega)]
theorem hold_zero {lo : Nat → Int} {lv : Int} {l : List UInt8} {rows : Nat → List (List UInt8)} : hold lo lv l rows 0 = rows := by
  funext j
  unfold hold
  rw [if_neg (by omega)]

def MultiEnd (base n : Nat) (F L : Nat → Nat) (lo : Nat → Int) (lv : Int) (l : List UInt8) (rows : Nat → List (List UInt8)) (W : Nat) (w0 : World) (w' : World) : Prop :=
  ∃ ob, Sys w' base n F L lo (hold lo lv l rows n) ob ∧ WsAt w' W n F ∧ Below base w0 w' ∧ Keeps (Turns w0) w0 w'

set_option maxRecDepth 100000 in
set_option maxHeartbeats 1600000 in
theorem multi_write (W n wc : Nat) (base : Nat) (F L : Nat → Nat) (lo : Nat → Int) (rows : Nat → List (List UInt8)) (ob : Nat → Option Nat) (lv : Int) (pb k cap : Nat) (l : List UInt8) (w : World)
    (hS : Sys w base n F L lo rows ob) (hWs : WsAt w W n F) (hP : BB w pb l) (hPt : Typed w pb 5) (hn : n ≤ 100) (hk : l.length = k) (hk1 : k ≤ 1000) (hr : ∀ i, i < n → (rows i).length ≤ 999) (hbase : base ≤ w.heap.size) :
    Calls Tryd.prog 92 #[.agg #[.slice (some ⟨W, 0, none⟩) n wc], .int .i8 lv, .slice (some ⟨pb, 0, none⟩) k cap] w fun e w' => (∃ r : Int, e = .returned (.tuple #[.int .i64 r, .nilIface])) ∧ MultiEnd base n F L lo lv l rows W w w' := by
  have HS := Lib.hid hS
  have HWs := Lib.hid hWs
  have HP := Lib.hid (And.intro hP hPt)
  have HK := Lib.hid hk
  have HR := Lib.hid hr
  clear hS hWs hP hPt hk hr
  go_enter Tryd.func92, Tryd.ntmps92
  go_wp2_with fail
  go_loopw [6, 7, 15] (fun r er i wr => ∃ (j : Nat) (x : Int), r = .int .i64 x ∧ er = .nilIface ∧ i = .int .i64 j ∧ j ≤ n ∧ Hid (∃ ob', Sys wr base n F L lo (hold lo lv l rows j) ob' ∧ WsAt wr W n F ∧ BB wr pb l ∧ Typed wr pb 5 ∧ Below base w wr ∧ Keeps (Turns w) w wr)) (fun _ _ i _ => n - (intOf i).toNat)
  case atStart =>
    have k1 : ∀ o, Keeps (fun _ => False) w (w.alloc o) := fun o => (Keeps.refl _ w).alloc o
    exact ⟨0, 0, rfl, rfl, rfl, Nat.zero_le _, Lib.hid ⟨ob, by rw [hold_zero]; exact HS.out.later (k1 _), HWs.out.keep (k1 _) id, HP.out.1.keep (k1 _) id, HP.out.2.keep (k1 _) id, (k1 _).below hbase (fun _ h => h.elim), (k1 _).mono (fun _ h => h.elim)⟩⟩
  case round =>
    obtain ⟨j, x, rfl, rfl, rfl, hj, HR2⟩ := hrel
    by_cases hjn : j < n
    · obtain ⟨ob', h1, h2, h3, h4, h5, h6⟩ := HR2.out
      have hc := h2.cell j hjn
      have HA := Lib.hid (And.intro h1 (And.intro h2 (And.intro h3 (And.intro h4 (And.intro h5 h6)))))
      have hcnt : (hold lo lv l rows j j).length ≤ 1000 := by
        have := HR.out j hjn
        unfold hold
        rw [if_neg (by omega)]
        omega
      have hsz := h5.size
      have hne : ob' j ≠ some pb := fun e => h4.ne ((h1.lin j hjn).row e).1 (by decide) rfl
      by_cases hl : lo j ≤ lv
      · have HF : Hid (Calls Tryd.prog 86 #[.pointer (some ⟨F j, 0, none⟩), .int .i8 lv, .slice (some ⟨pb, 0, none⟩) k cap] wr fun e w' => e = .returned (.tuple #[.int .i64 k, .nilIface]) ∧ Wrote wr base (L j) (hold lo lv l rows j j ++ [l]) (ob' j) w') := Lib.hid (filter_yes (F j) (L j) _ (ob' j) pb k cap base lv (lo j) l wr (h1.flt j hjn) hl (h1.lin j hjn) h3 HK.out hk1 hcnt (by omega) hne)
        clear h1 h2 h3 h4 h5 h6 hne hcnt
        go_wp2_with (first | (go_at_call 86; refine HF.out.mono ?_; rintro e w1 ⟨rfl, hw1⟩; have HW1 := Lib.hid hw1; clear hw1))
        go_roundw
        case rel =>
          obtain ⟨h1, h2, h3, h4, h5, h6⟩ := HA.out
          obtain ⟨ob2, s1, s2, s3⟩ := h1.wrote hjn HW1.out
          refine ⟨j + 1, k, rfl, rfl, by go_num, by omega, Lib.hid ⟨ob2, by rw [hold_yes hl]; exact s1, h2.keep s3 ?_, h3.keep s3 ?_, h4.keep s3 ?_, h5.trans s2, h6.trans_old s3 (fun g hg ht => Turns.back h6 hg ht)⟩⟩
          · obtain ⟨cs, hw, _⟩ := h2
            rintro (ht | ht)
            · exact hw.typed.ne ht (by decide) rfl
            · exact hw.typed.ne ht (by decide) rfl
          · rintro (ht | ht)
            · exact h4.ne ht (by decide) rfl
            · exact h4.ne ht (by decide) rfl
          · rintro (ht | ht)
            · exact h4.ne ht (by decide) rfl
            · exact h4.ne ht (by decide) rfl
        case measure => simp [intOf]; omega
      · have HF : Hid (Calls Tryd.prog 86 #[.pointer (some ⟨F j, 0, none⟩), .int .i8 lv, .slice (some ⟨pb, 0, none⟩) k cap] wr fun e w' => e = .returned (.tuple #[.int .i64 k, .nilIface]) ∧ wr = w') := Lib.hid (filter_no (F j) (L j) (some ⟨pb, 0, none⟩) k cap lv (lo j) wr (h1.flt j hjn) (by omega))
        clear h1 h2 h3 h4 h5 h6 hne hcnt
        go_wp2_with (first | (go_at_call 86; refine HF.out.mono ?_; rintro e w1 ⟨rfl, rfl⟩))
        go_roundw
        case rel =>
          obtain ⟨h1, h2, h3, h4, h5, h6⟩ := HA.out
          exact ⟨j + 1, k, rfl, rfl, by go_num, by omega, Lib.hid ⟨ob', by rw [hold_no (by omega)]; exact h1, h2, h3, h4, h5, h6⟩⟩
        case measure => simp [intOf]; omega
    · obtain rfl : j = n := by omega
      go_wp2_with fail
      go_returns
      obtain ⟨ob', h1, h2, h3, h4, h5, h6⟩ := HR2.out
      exact ⟨⟨x, rfl⟩, ob', h1, h2, h5, h6⟩
end Go.Proofs.YtiboiagimcgjkaaDoor
