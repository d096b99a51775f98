/- A decimal in memory: 800 digits, how many of them count, where the point stands; zeros at the end are dropped. -/
import Derived.Test.YtnfddblpenninaaDoorFixR
import Derived.BigRegion
namespace Go.Proofs.YtnfddblpenninaaDoor
open Go.RowKit

/-- The number of n digits from place a on. -/
def sufN (d : Nat → UInt8) (a : Nat) : Nat → Nat
  | 0 => 0
  | n + 1 => ((d a).toNat - 48) * 10 ^ n + sufN d (a + 1) n
theorem sufN_congr {d d' : Nat → UInt8} : ∀ (n a : Nat), (∀ i, a ≤ i → i < a + n → d i = d' i) → sufN d a n = sufN d' a n
  | 0, _, _ => rfl
  | n + 1, a, h => by
    rw [sufN, sufN, h a (Nat.le_refl _) (by omega), sufN_congr n (a + 1) fun i h1 h2 => h i (by omega) (by omega)]
theorem sufN_snoc (d : Nat → UInt8) : ∀ (n a : Nat), sufN d a (n + 1) = sufN d a n * 10 + ((d (a + n)).toNat - 48)
  | 0, a => by simp [sufN]
  | n + 1, a => by
    rw [sufN, sufN_snoc d n (a + 1), sufN, show a + 1 + n = a + (n + 1) by omega, Nat.pow_succ, Nat.add_mul, Nat.mul_assoc]
    omega
theorem sufN_lt (d : Nat → UInt8) (n a : Nat) (h : ∀ i, a ≤ i → i < a + n → (d i).toNat ≤ 57) : sufN d a n < 10 ^ n := by
  induction n generalizing a with
  | zero => simp [sufN]
  | succ n ih =>
    rw [sufN, Nat.pow_succ]
    have h1 := ih (a + 1) fun i h1 h2 => h i (by omega) (by omega)
    have h2 := h a (Nat.le_refl _) (by omega)
    have h3 : ((d a).toNat - 48) * 10 ^ n ≤ 9 * 10 ^ n := Nat.mul_le_mul_right _ (by omega)
    omega
theorem sufN_split (d : Nat → UInt8) (n : Nat) : ∀ (m a : Nat), sufN d a (n + m) = sufN d a n * 10 ^ m + sufN d (a + n) m
  | 0, a => by simp [sufN]
  | m + 1, a => by
    rw [← Nat.add_assoc, sufN_snoc, sufN_split d n m a, sufN_snoc d m (a + n), Nat.add_assoc a n m, Nat.pow_succ, Nat.add_mul, Nat.mul_assoc]
    omega
/-- A digit put in place. -/
def putD (d : Nat → UInt8) (i : Nat) (c : UInt8) : Nat → UInt8 := fun j => if j = i then c else d j
theorem putD_same (d : Nat → UInt8) (i : Nat) (c : UInt8) : putD d i c i = c := if_pos rfl
theorem putD_other (d : Nat → UInt8) {i j : Nat} (c : UInt8) (h : j ≠ i) : putD d i c j = d j := if_neg h

/-- Block a is a decimal. -/
def Dec (w : World) (a : Nat) (d : Nat → UInt8) (nd : Nat) (dp : Int) : Prop :=
  ∃ cs : Array Value, Whole w a 105 cs ∧ cs.size = 804 ∧ (∀ i, i < 800 → cs[i]? = some (byteV (d i))) ∧ cs[800]? = some (.int .i64 (nd : Int)) ∧ cs[801]? = some (.int .i64 dp) ∧ cs[803]? = some (.bool false)
theorem Dec.lt {w : World} {a nd : Nat} {d : Nat → UInt8} {dp : Int} (h : Dec w a d nd dp) : a < w.heap.size := by obtain ⟨_, h, _⟩ := h; exact h.lt
theorem Dec.dig {w : World} {a nd : Nat} {d : Nat → UInt8} {dp : Int} (h : Dec w a d nd dp) (i : Nat) (hi : i < 800) : w.cell? ⟨a, i, none⟩ = some (.int .u8 ((d i).toNat : Int)) := by
  obtain ⟨cs, hw, _, hc, _⟩ := h
  rw [hw.cell, hc i hi]
  rfl
theorem Dec.cnt {w : World} {a nd : Nat} {d : Nat → UInt8} {dp : Int} (h : Dec w a d nd dp) : w.cell? ⟨a, 800, none⟩ = some (.int .i64 (nd : Int)) := by
  obtain ⟨cs, hw, _, _, hc, _⟩ := h
  rw [hw.cell, hc]
theorem Dec.pt {w : World} {a nd : Nat} {d : Nat → UInt8} {dp : Int} (h : Dec w a d nd dp) : w.cell? ⟨a, 801, none⟩ = some (.int .i64 dp) := by
  obtain ⟨cs, hw, _, _, _, hc, _⟩ := h
  rw [hw.cell, hc]
theorem Dec.tr {w : World} {a nd : Nat} {d : Nat → UInt8} {dp : Int} (h : Dec w a d nd dp) : w.cell? ⟨a, 803, none⟩ = some (.bool false) := by
  obtain ⟨cs, hw, _, _, _, _, hc⟩ := h
  rw [hw.cell, hc]
theorem Dec.frozen {w : World} {a nd : Nat} {d : Nat → UInt8} {dp : Int} (h : Dec w a d nd dp) (i : Nat) : w.frozen? ⟨a, i, none⟩ = false := by
  obtain ⟨cs, hw, _⟩ := h
  exact hw.frozen i
theorem Dec.keep {S : Nat → Prop} {w w' : World} {a nd : Nat} {d : Nat → UInt8} {dp : Int} (h : Dec w a d nd dp) (k : Keeps S w w') (hS : ¬ S a) : Dec w' a d nd dp := by
  obtain ⟨cs, hw, r⟩ := h
  exact ⟨cs, hw.keep k hS, r⟩
theorem Dec.drewN {w : World} {a nd : Nat} {d : Nat → UInt8} {dp : Int} (h : Dec w a d nd dp) (n : Nat) : Dec (w.drewN n) a d nd dp := by
  obtain ⟨cs, hw, r⟩ := h
  exact ⟨cs, hw.drewN n, r⟩
theorem Dec.setDig {w : World} {a nd : Nat} {d : Nat → UInt8} {dp : Int} (h : Dec w a d nd dp) (i : Nat) (c : UInt8) (v : Int) (hv : v = (c.toNat : Int)) (hi : i < 800) : Dec (w.setCell ⟨a, i, none⟩ (.int .u8 v)) a (putD d i c) nd dp := by
  subst hv
  obtain ⟨cs, hw, hs, h1, h2, h3, h4⟩ := h
  refine ⟨_, hw.set i _, by simpa using hs, fun j hj => ?_, ?_, ?_, ?_⟩
  · rw [Array.getElem?_setIfInBounds]
    by_cases hij : i = j
    · subst hij
      rw [if_pos rfl, if_pos (by omega), putD_same]
      rfl
    · rw [if_neg hij, h1 j hj, putD_other d c (fun h => hij h.symm)]
  all_goals
    rw [Array.getElem?_setIfInBounds, if_neg (by omega)]
    assumption
theorem Dec.setCnt {w : World} {a nd : Nat} {d : Nat → UInt8} {dp : Int} (h : Dec w a d nd dp) (k : Nat) (v : Int) (hv : v = (k : Int)) : Dec (w.setCell ⟨a, 800, none⟩ (.int .i64 v)) a d k dp := by
  subst hv
  obtain ⟨cs, hw, hs, h1, h2, h3, h4⟩ := h
  refine ⟨_, hw.set 800 _, by simpa using hs, fun j hj => ?_, ?_, ?_, ?_⟩
  · rw [Array.getElem?_setIfInBounds, if_neg (by omega), h1 j hj]
  · rw [Array.getElem?_setIfInBounds, if_pos rfl, if_pos (by omega)]
  all_goals
    rw [Array.getElem?_setIfInBounds, if_neg (by omega)]
    assumption
theorem Dec.setPt {w : World} {a nd : Nat} {d : Nat → UInt8} {dp : Int} (h : Dec w a d nd dp) (v : Int) : Dec (w.setCell ⟨a, 801, none⟩ (.int .i64 v)) a d nd v := by
  obtain ⟨cs, hw, hs, h1, h2, h3, h4⟩ := h
  refine ⟨_, hw.set 801 _, by simpa using hs, fun j hj => ?_, ?_, ?_, ?_⟩
  · rw [Array.getElem?_setIfInBounds, if_neg (by omega), h1 j hj]
  · rw [Array.getElem?_setIfInBounds, if_neg (by omega), h2]
  · rw [Array.getElem?_setIfInBounds, if_pos rfl, if_pos (by omega)]
  · rw [Array.getElem?_setIfInBounds, if_neg (by omega), h4]

/-- What 'trim' leaves. -/
def TrimEnd (w : World) (a : Nat) (d : Nat → UInt8) (nd : Nat) (dp : Int) (e : Ending) (w' : World) : Prop :=
  e = .returned (.tuple #[]) ∧ ∃ k, k ≤ nd ∧ (∀ i, k ≤ i → i < nd → d i = 48) ∧ (k = 0 ∨ d (k - 1) ≠ 48) ∧ Dec w' a d k (if k = 0 then 0 else dp) ∧ Keeps (fun b => b = a) w w'
/-- How many digits count, read off the memory. -/
def cntAt (w : World) (a : Nat) : Nat := match w.cell? ⟨a, 800, none⟩ with | some (.int _ k) => k.toNat | _ => 0
theorem Dec.cntAt {w : World} {a nd : Nat} {d : Nat → UInt8} {dp : Int} (h : Dec w a d nd dp) : cntAt w a = nd := by
  unfold Go.Proofs.YtnfddblpenninaaDoor.cntAt
  rw [h.cnt]
  rfl
set_option maxRecDepth 100000 in
set_option maxHeartbeats 4000000 in
theorem trim_walk (a nd : Nat) (d : Nat → UInt8) (dp : Int) (w : World) (h : Dec w a d nd dp) (hnd : nd ≤ 800) :
    Calls Tryd.prog 87 #[.pointer (some ⟨a, 0, none⟩)] w (TrimEnd w a d nd dp) := by
  have HH := Lib.hid h
  clear h
  go_enter Tryd.func87, Tryd.ntmps87
  go_wp2_with fail
  go_loopw [] (fun wr => ∃ k, k ≤ nd ∧ Hid ((∀ i, k ≤ i → i < nd → d i = 48) ∧ Dec wr a d k dp ∧ Keeps (fun b => b = a) w wr)) (fun wr => cntAt wr a)
  case atStart =>
    exact ⟨nd, Nat.le_refl _, Lib.hid ⟨fun i h1 h2 => by omega, HH.out, Keeps.refl _ _⟩⟩
  case round =>
    obtain ⟨k, hk, hM⟩ := hrel
    have hend : ∀ (w3 : World) dp', (k = 0 ∨ d (k - 1) ≠ 48) → dp' = (if k = 0 then 0 else dp) → Dec w3 a d k dp' → Keeps (fun b => b = a) w w3 → TrimEnd w a d nd dp (.returned (.tuple #[])) w3 := fun w3 dp' h1 h2 h3 h4 => ⟨rfl, k, hk, hM.out.1, h1, h2 ▸ h3, h4⟩
    have HE := Lib.hid hend
    clear hend
    have hc := hM.out.2.1.cnt
    have hf := hM.out.2.1.frozen
    have hp := hM.out.2.1.pt
    rcases Nat.eq_zero_or_pos k with rfl | hk0
    · go_wp2_with fail
      go_quiet (fail)
      go_wp2_with fail
      go_returns
      exact HE.out _ 0 (by simp) (by simp) ((hM.out.2.1.drewN _).setPt 0) ((hM.out.2.2.drewN _).set (p := ⟨a, 801, none⟩) (.inl rfl) _)
    · obtain ⟨j, rfl⟩ : ∃ j, k = j + 1 := ⟨k - 1, by omega⟩
      have hd := hM.out.2.1.dig j (by omega)
      obtain ⟨x, hx⟩ : ∃ x, x = d j := ⟨_, rfl⟩
      rw [← hx] at hd
      have HX := Lib.hid hx
      clear hx
      by_cases hx48 : x.toNat = 48
      · have hq : ((x.toNat : Int) == 48) = true := by simp; omega
        have H48 := Lib.hid hx48
        clear hx48
        go_wp2_with fail
        go_quiet (fail)
        go_wp2_with fail
        have hD := (hM.out.2.1.drewN nq).setCnt j (j : Int) rfl
        refine ⟨⟨j, by omega, Lib.hid ⟨fun i h1 h2 => ?_, hD, (hM.out.2.2.drewN nq).set (p := ⟨a, 800, none⟩) (.inl rfl) _⟩⟩, ?_⟩
        · by_cases hij : i = j
          · rw [hij, ← HX.out]
            exact UInt8.toNat_inj.1 (by rw [H48.out]; rfl)
          · exact hM.out.1 i (by omega) h2
        · rw [hD.cntAt, hM.out.2.1.cntAt]
          omega
      · have hq : ((x.toNat : Int) == 48) = false := by simp; omega
        have H48 := Lib.hid hx48
        clear hx48
        go_wp2_with fail
        go_quiet (fail)
        go_wp2_with fail
        go_returns
        refine HE.out _ dp (.inr ?_) (by rw [if_neg (by omega)]) (hM.out.2.1.drewN _) (hM.out.2.2.drewN _)
        rw [Nat.add_sub_cancel, ← HX.out]
        intro h
        exact H48.out (by rw [h]; rfl)
#print axioms trim_walk
end Go.Proofs.YtnfddblpenninaaDoor
/- A whole number is laid into a decimal. -/
namespace Go.Proofs.YtnfddblpenninaaDoor
open Go.RowKit

/-- Digits, the first of which is not 0. -/
def Lead (d : Nat → UInt8) (n : Nat) : Prop := 0 < n ∧ (∀ i, i < n → 48 ≤ (d i).toNat ∧ (d i).toNat ≤ 57) ∧ (d 0).toNat ≠ 48
theorem sufN_zeros (d : Nat → UInt8) : ∀ (n a : Nat), (∀ i, a ≤ i → i < a + n → d i = 48) → sufN d a n = 0
  | 0, _, _ => rfl
  | n + 1, a, h => by
    rw [sufN, h a (Nat.le_refl _) (by omega), sufN_zeros d n (a + 1) fun i h1 h2 => h i (by omega) (by omega)]
    simp
theorem sufN_trim (d : Nat → UInt8) (k n : Nat) (hk : k ≤ n) (h : ∀ i, k ≤ i → i < n → d i = 48) : sufN d 0 n = sufN d 0 k * 10 ^ (n - k) := by
  have h1 := sufN_split d k (n - k) 0
  rw [show k + (n - k) = n by omega, Nat.zero_add, sufN_zeros d (n - k) k fun i h1 h2 => h i h1 (by omega)] at h1
  omega
/-- What trim leaves of digits the first of which is not 0. -/
def Trimmed (w : World) (a : Nat) (d : Nat → UInt8) (nd : Nat) (dp : Int) (w' : World) : Prop :=
  ∃ k, k ≤ nd ∧ Lead d k ∧ (d (k - 1)).toNat ≠ 48 ∧ sufN d 0 nd = sufN d 0 k * 10 ^ (nd - k) ∧ Dec w' a d k dp ∧ Keeps (fun b => b = a) w w'
theorem trim_lead {w w' : World} {a nd : Nat} {d : Nat → UInt8} {dp : Int} {e : Ending} (h : TrimEnd w a d nd dp e w') (hL : Lead d nd) : e = .returned (.tuple #[]) ∧ Trimmed w a d nd dp w' := by
  obtain ⟨rfl, k, hk, hz, hl, hD, hK⟩ := h
  have hk0 : 0 < k := by
    rcases Nat.eq_zero_or_pos k with rfl | h
    · exact absurd (congrArg UInt8.toNat (hz 0 (Nat.le_refl _) hL.1)) hL.2.2
    · exact h
  rw [if_neg (by omega)] at hD
  refine ⟨rfl, k, hk, ⟨hk0, fun i hi => hL.2.1 i (by omega), hL.2.2⟩, ?_, sufN_trim d k nd hk hz, hD, hK⟩
  rcases hl with h | h
  · omega
  · exact fun h2 => h (UInt8.toNat_inj.1 (by rw [h2]; rfl))
theorem dg_nat (u j : Nat) : (Lib.dg u j).toNat = 48 + u / 10 ^ j % 10 := by
  unfold Lib.dg
  exact digit_nat _ (by omega)
theorem sufN_dg (d : Nat → UInt8) (v j : Nat) (hv : v < 10 ^ j) (h : ∀ i, i < j → d i = Lib.dg v (j - 1 - i)) : ∀ t, t ≤ j → sufN d 0 t = v / 10 ^ (j - t)
  | 0, _ => by rw [sufN, Nat.sub_zero, Nat.div_eq_of_lt hv]
  | t + 1, ht => by
    rw [sufN_snoc, sufN_dg d v j hv h t (by omega), Nat.zero_add, h t (by omega), dg_nat, show j - 1 - t = j - (t + 1) by omega, show j - t = j - (t + 1) + 1 by omega, Nat.pow_succ, ← Nat.div_div_eq_div_mul]
    omega
theorem Dec.drew {w : World} {a nd : Nat} {d : Nat → UInt8} {dp : Int} (h : Dec w a d nd dp) : Dec w.drew a d nd dp := by
  obtain ⟨cs, hw, r⟩ := h
  exact ⟨cs, hw.drew, r⟩
/-- What 'Assign' leaves. -/
def AssignEnd (w : World) (a v : Nat) (e : Ending) (w' : World) : Prop :=
  e = .returned (.tuple #[]) ∧ ∃ (d : Nat → UInt8) (k j : Nat), k ≤ j ∧ j ≤ 17 ∧ Lead d k ∧ (d (k - 1)).toNat ≠ 48 ∧ sufN d 0 k * 10 ^ (j - k) = v ∧ Dec w' a d k (j : Int) ∧ Keeps (fun b => b = a) w w'
/-- The digits from the right, before round j. -/
def Rev (w0 wr : World) (B v j x : Nat) : Prop := x = v / 10 ^ j ∧ (∀ k, k < j → 0 < v / 10 ^ k) ∧ (∃ cs : Array Value, Whole wr B 100 cs ∧ cs.size = 24 ∧ ∀ i, i < j → cs[i]? = some (byteV (Lib.dg v i))) ∧ Keeps (fun b => b = B) w0 wr
/-- The digits laid, before round t. -/
def Fwd (w0 wr : World) (a B v j t : Nat) (dp : Int) : Prop := ∃ d : Nat → UInt8, Dec wr a d t dp ∧ (∀ i, i < t → d i = Lib.dg v (j - 1 - i)) ∧ (∃ cs : Array Value, Whole wr B 100 cs ∧ ∀ i, i < j → cs[i]? = some (byteV (Lib.dg v i))) ∧ Keeps (fun b => b = a ∨ b = B) w0 wr
set_option maxRecDepth 100000 in
set_option maxHeartbeats 4000000 in
theorem assign_walk (a v nd0 : Nat) (d0 : Nat → UInt8) (dp0 : Int) (w : World) (h : Dec w a d0 nd0 dp0) (hv0 : 0 < v) (hv : v < 100000000000000000) :
    Calls Tryd.prog 64 #[.pointer (some ⟨a, 0, none⟩), .int .u64 (v : Int)] w (AssignEnd w a v) := by
  have HH := Lib.hid h
  have hva := h.lt
  clear h
  go_enter Tryd.func64, Tryd.ntmps64
  go_wp2_with fail
  go_loopw [1, 5] (fun v1 v5 wr => ∃ j x : Nat, v1 = .int .u64 x ∧ v5 = .int .i64 j ∧ j ≤ 17 ∧ x < 100000000000000000 ∧ Hid (Rev (w.alloc (.cells (Array.replicate 24 (.int .u8 0)) 100)) wr w.heap.size v j x)) (fun v1 _ _ => (intOf v1).toNat)
  case atStart =>
    refine ⟨0, v, rfl, rfl, Nat.zero_le _, hv, Lib.hid ⟨by simp, fun k hk => by omega, ⟨_, Whole.new w 100 _, by simp, fun i hi => by omega⟩, Keeps.refl _ _⟩⟩
  case round =>
    obtain ⟨j, x, rfl, rfl, hj, hx, hM⟩ := hrel
    rcases Nat.eq_zero_or_pos x with rfl | hx0
    · have hj0 : 0 < j := by
        rcases Nat.eq_zero_or_pos j with rfl | h
        · have := hM.out.1
          rw [Nat.pow_zero, Nat.div_one] at this
          omega
        · exact h
      have HJ := Lib.hid hj0
      have hB : w.heap.size < wr.heap.size := by have := hM.out.2.2.2.size; simp at this; omega
      have hD : Dec wr a d0 nd0 dp0 := (HH.out.keep ((Keeps.refl (fun b => b = w.heap.size) w).alloc _) (by omega)).keep hM.out.2.2.2 (by omega)
      have hc := hD.cnt
      have hf := hD.frozen
      have HD := Lib.hid hD
      clear hD
      go_wp2_with fail
      obtain ⟨wo, hwo⟩ : ∃ wo, wo = wr := ⟨_, rfl⟩
      rw [← hwo] at HD hM hc hf hB ⊢
      have HA0 := Lib.hid hM.out
      clear hwo
      go_loopw [5] (fun v5 wz => ∃ t : Nat, v5 = .int .i64 ((j : Int) - 1 - t) ∧ t ≤ j ∧ Hid (Fwd wo wz a w.heap.size v j t dp0)) (fun v5 _ => (intOf v5 + 1).toNat)
      case atStart =>
        obtain ⟨_, _, ⟨cs, h3, _, h5⟩, _⟩ := hM.out
        refine ⟨0, by simp, Nat.zero_le _, Lib.hid ⟨d0, HD.out.setCnt 0 0 rfl, fun i hi => by omega, ⟨cs, h3.far (by simp; omega) _, h5⟩, (Keeps.refl (fun b => b = a ∨ b = w.heap.size) _).set (p := ⟨a, 800, none⟩) (.inl (.inl rfl)) _⟩⟩
      case round =>
        obtain ⟨t, rfl, ht, hF⟩ := hrel
        obtain ⟨d, f1, f2, ⟨cs, f3, f4⟩, f5⟩ := hF.out
        have HF := Lib.hid (And.intro f1 (And.intro f2 (And.intro f3 (And.intro f4 f5))))
        have hc := f1.cnt
        have hf := f1.frozen
        have hp := f1.pt
        have hd := f1.dig t (by omega)
        clear f1 f2 f5 hF
        rcases Nat.eq_or_lt_of_le ht with rfl | htj
        · rw [show (t : Int) - 1 - (t : Int) = -1 by omega]
          clear f3 f4 ht
          have hT := trim_walk a t d (t : Int) (wr.setCell ⟨a, 801, none⟩ (.int .i64 (t : Int))) (HF.out.1.setPt _) (by omega)
          have HT := Lib.hid hT
          clear hT
          go_wp2_with (first | (go_at_call 87; refine HT.out.mono ?_; intro e1 w4 h4; have H4 := Lib.hid h4; clear h4; obtain rfl := H4.out.1))
          go_returns
          have hrev := HA0.out
          have hv10 : v < 10 ^ t := by
            have h1 := hrev.1
            rcases Nat.lt_or_ge v (10 ^ t) with h | h
            · exact h
            · have := Nat.div_pos h (Nat.pow_pos (n := t) (by decide : 0 < 10))
              omega
          have hlead : Lead d t := by
            refine ⟨HJ.out, fun i hi => ?_, ?_⟩
            · rw [HF.out.2.1 i hi, dg_nat]
              omega
            · rw [HF.out.2.1 0 HJ.out, dg_nat, Nat.sub_zero]
              have h1 := hrev.2.1 (t - 1) (by have := HJ.out; omega)
              have h2 : v / 10 ^ (t - 1) < 10 := by
                refine Nat.div_lt_of_lt_mul ?_
                rw [← Nat.pow_succ, show (t - 1).succ = t by have := HJ.out; omega]
                exact hv10
              omega
          obtain ⟨_, k, hk, h5, h6, h7, h8, h9⟩ := trim_lead H4.out hlead
          refine ⟨rfl, d, k, t, hk, by omega, h5, h6, ?_, h8, ?_⟩
          · rw [← h7, sufN_dg d v t hv10 HF.out.2.1 t (Nat.le_refl _), Nat.sub_self, Nat.pow_zero, Nat.div_one]
          · have k1 : Keeps (fun b => b = a ∨ b = w.heap.size) w wo := ((Keeps.refl _ w).alloc _).trans (hrev.2.2.2.mono fun k h => .inr h)
            have k2 := (k1.trans HF.out.2.2.2.2).trans (((Keeps.refl (fun b => b = a ∨ b = w.heap.size) wr).set (p := ⟨a, 801, none⟩) (.inl (.inl rfl)) _).trans (h9.mono fun k h => .inl h))
            exact k2.mono_new fun k hk h => by
              rcases h with h | h
              · exact h
              · omega
        · obtain ⟨i, hi⟩ : ∃ i : Nat, (j : Int) - 1 - t = (i : Int) := ⟨j - 1 - t, by omega⟩
          rw [hi]
          have hij : i < j := by omega
          have hb : wr.cell? ⟨w.heap.size, i, none⟩ = some (.int .u8 ((Lib.dg v i).toNat : Int)) := by rw [f3.cell, f4 i hij]; rfl
          obtain ⟨c, hcc⟩ : ∃ c, c = Lib.dg v i := ⟨_, rfl⟩
          rw [← hcc] at hb
          have HI := Lib.hid (And.intro hi hcc)
          clear hi hcc f3 f4 ht
          go_upto_region 12 with fail
          go_region
          go_wp2_with fail
          refine ⟨⟨t + 1, congrArg (Value.int .i64) (by have := HI.out.1; omega), by omega, Lib.hid ⟨putD d t c, ((HF.out.1.setDig t c _ rfl (by omega)).setCnt (t + 1) _ (by omega)).drew, fun k hk => ?_, ⟨cs, (((HF.out.2.2.1.far (by simp; omega) _).far (by simp; omega) _).drew), HF.out.2.2.2.1⟩, ((HF.out.2.2.2.2.set (p := ⟨a, t, none⟩) (.inl (.inl rfl)) _).set (p := ⟨a, 800, none⟩) (.inl (.inl rfl)) _).drew⟩⟩, by simp [intOf]⟩
          by_cases hkt : k = t
          · rw [hkt, putD_same, HI.out.2]
            congr 1
            have := HI.out.1
            omega
          · rw [putD_other d c hkt]
            exact HF.out.2.1 k (by omega)
    · have hj17 : j < 17 := by
        have h1 := hM.out.1
        rcases Nat.lt_or_ge j 17 with h | h
        · exact h
        · obtain rfl : j = 17 := by omega
          rw [Nat.div_eq_of_lt hv] at h1
          omega
      obtain ⟨h1, h2, ⟨cs, h3, h4, h5⟩, h6⟩ := hM.out
      have hc : wr.cell? ⟨w.heap.size, j, none⟩ = some (cs[j]'(by omega)) := by rw [h3.cell]; simp
      have hf := h3.frozen
      have HA := Lib.hid (And.intro h1 (And.intro h2 (And.intro h3 (And.intro h4 (And.intro h5 h6)))))
      clear h1 h2 h3 h5 h6 hM
      go_wp2_with fail
      refine ⟨⟨j + 1, x / 10, by go_num, by go_num, by omega, by omega, Lib.hid ⟨?_, fun k hk => ?_, ⟨_, HA.out.2.2.1.set j _, by simpa using h4, fun i hi => ?_⟩, HA.out.2.2.2.2.2.set (p := ⟨w.heap.size, j, none⟩) (.inl rfl) _⟩⟩, by simp [intOf]; omega⟩
      · rw [HA.out.1, Nat.div_div_eq_div_mul, Nat.pow_succ]
      · by_cases hkj : k = j
        · rw [hkj, ← HA.out.1]; exact hx0
        · exact HA.out.2.1 k (by omega)
      · rw [Array.getElem?_setIfInBounds]
        by_cases hij : j = i
        · subst hij
          rw [if_pos rfl, if_pos (by omega)]
          exact congrArg (fun n => some (Value.int .u8 n)) (by rw [dg_nat, ← HA.out.1]; omega)
        · rw [if_neg hij]
          exact HA.out.2.2.2.2.1 i (by omega)
#print axioms assign_walk
end Go.Proofs.YtnfddblpenninaaDoor
/- Whether a number's digits come before those of another, as fractions. -/
namespace Go.Proofs.YtnfddblpenninaaDoor
open Go.RowKit

theorem lex_lt (d e : Nat → UInt8) (n m i : Nat) (hi : i < n) (hi' : i < m) (hs : ∀ t, t < i → d t = e t) (hd : ∀ t, t < n → 48 ≤ (d t).toNat ∧ (d t).toNat ≤ 57) (hlt : (d i).toNat < (e i).toNat) :
    sufN d 0 n * 10 ^ m < sufN e 0 m * 10 ^ n := by
  have h1 := sufN_split d i (n - i) 0
  have h2 := sufN_split e i (m - i) 0
  rw [show i + (n - i) = n by omega, Nat.zero_add] at h1
  rw [show i + (m - i) = m by omega, Nat.zero_add, ← sufN_congr i 0 fun t _ h => hs t (by omega)] at h2
  obtain ⟨p, hp⟩ : ∃ p, n - i = p + 1 := ⟨n - i - 1, by omega⟩
  obtain ⟨q, hq⟩ : ∃ q, m - i = q + 1 := ⟨m - i - 1, by omega⟩
  rw [hp, sufN] at h1
  rw [hq, sufN] at h2
  have h3 := sufN_lt d p (i + 1) fun t ht1 ht2 => (hd t (by omega)).2
  obtain ⟨P, hP⟩ : ∃ P, P = sufN d 0 i := ⟨_, rfl⟩
  rw [← hP] at h1 h2
  have hdi := hd i hi
  obtain ⟨x, hx⟩ : ∃ x, (d i).toNat = 48 + x := ⟨(d i).toNat - 48, by omega⟩
  obtain ⟨y, hy⟩ : ∃ y, (e i).toNat = 48 + y := ⟨(e i).toNat - 48, by omega⟩
  rw [hx, show 48 + x - 48 = x by omega] at h1
  rw [hy, show 48 + y - 48 = y by omega] at h2
  have hxy : x + 1 ≤ y := by omega
  have hn1 : sufN d 0 n < (P * 10 + (x + 1)) * 10 ^ p := by
    rw [h1, Nat.pow_succ, Nat.add_mul, Nat.add_mul, Nat.one_mul, Nat.mul_assoc, Nat.mul_comm 10]
    omega
  have hm1 : (P * 10 + y) * 10 ^ q ≤ sufN e 0 m := by
    rw [h2, Nat.pow_succ, Nat.add_mul, Nat.mul_assoc, Nat.mul_comm 10]
    omega
  have hmul : (P * 10 + (x + 1)) * 10 ^ p * 10 ^ m ≤ (P * 10 + y) * 10 ^ q * 10 ^ n := by
    have : n + q = p + m := by omega
    rw [Nat.mul_assoc, Nat.mul_assoc, ← Nat.pow_add, ← Nat.pow_add, Nat.add_comm q n, this]
    exact Nat.mul_le_mul_right _ (by omega)
  calc sufN d 0 n * 10 ^ m < (P * 10 + (x + 1)) * 10 ^ p * 10 ^ m := Nat.mul_lt_mul_of_pos_right hn1 (Nat.pow_pos (by decide))
    _ ≤ (P * 10 + y) * 10 ^ q * 10 ^ n := hmul
    _ ≤ sufN e 0 m * 10 ^ n := Nat.mul_le_mul_right _ hm1
theorem lex_ge (d e : Nat → UInt8) (n m : Nat) (hm : m ≤ n) (hs : ∀ t, t < m → d t = e t) : sufN e 0 m * 10 ^ n ≤ sufN d 0 n * 10 ^ m := by
  have h1 := sufN_split d m (n - m) 0
  rw [show m + (n - m) = n by omega, Nat.zero_add, sufN_congr m 0 fun t _ h => hs t (by omega)] at h1
  rw [h1, Nat.add_mul, Nat.mul_assoc, ← Nat.pow_add, show n - m + m = n by omega]
  exact Nat.le_add_right _ _
theorem sufN_pos (e : Nat → UInt8) (n a : Nat) (h : 48 < (e (a + n)).toNat) : 0 < sufN e a (n + 1) := by
  rw [sufN_snoc]
  omega
theorem lex_short (d e : Nat → UInt8) (n m : Nat) (hm : n < m) (hs : ∀ t, t < n → d t = e t) (hl : 48 < (e (m - 1)).toNat) : sufN d 0 n * 10 ^ m < sufN e 0 m * 10 ^ n := by
  have h1 := sufN_split e n (m - n) 0
  rw [show n + (m - n) = m by omega, Nat.zero_add, ← sufN_congr n 0 fun t _ h => hs t (by omega)] at h1
  have h2 : 0 < sufN e n (m - n) := by
    obtain ⟨q, hq⟩ : ∃ q, m - n = q + 1 := ⟨m - n - 1, by omega⟩
    rw [hq]
    refine sufN_pos e q n ?_
    rw [show n + q = m - 1 by omega]
    exact hl
  rw [h1, Nat.add_mul, Nat.mul_assoc, ← Nat.pow_add, show m - n + n = m by omega]
  have := Nat.mul_pos h2 (Nat.pow_pos (n := n) (by decide : 0 < 10))
  omega

set_option maxRecDepth 100000 in
set_option maxHeartbeats 4000000 in
theorem prefix_walk (a n m cp : Nat) (d : Nat → UInt8) (s : ByteArray) (l : List UInt8) (hs : s.data.toList = l) (hm : l.length = m) (e : Nat → UInt8) (he : ∀ i (h : i < l.length), e i = l[i]) (w : World)
    (hc : ∀ i, i < n → w.cell? ⟨a, i, none⟩ = some (.int .u8 ((d i).toNat : Int))) (hd : ∀ t, t < n → 48 ≤ (d t).toNat ∧ (d t).toNat ≤ 57) (hE : ∀ t, t < m → 48 ≤ (e t).toNat ∧ (e t).toNat ≤ 57) (hl : 48 < (e (m - 1)).toNat) (hn : n ≤ 800) (hm1 : m ≤ 800) (hcp : n ≤ cp) :
    Calls Tryd.prog 99 #[.slice (some ⟨a, 0, none⟩) n cp, .string s] w fun x w' => x = .returned (.bool (decide (sufN d 0 n * 10 ^ m < sufN e 0 m * 10 ^ n))) ∧ ∃ q, w' = w.drewN q := by
  have hz : s.size = m := by rw [size_of hs, hm]
  obtain ⟨b, hb⟩ : ∃ b, b = decide (sufN d 0 n * 10 ^ m < sufN e 0 m * 10 ^ n) := ⟨_, rfl⟩
  rw [← hb]
  have HH := Lib.hid (And.intro hs (And.intro hm (And.intro he (And.intro hc (And.intro hd (And.intro hE hl))))))
  have HB := Lib.hid hb
  clear hs hm he hc hd hE hl hb
  go_enter Tryd.func99, Tryd.ntmps99
  go_wp2_with fail
  go_loopw [5] (fun v5 wr => ∃ i : Nat, v5 = .int .i64 i ∧ i ≤ m ∧ i ≤ n ∧ Hid ((∃ q, wr = w.drewN q) ∧ ∀ t, t < i → d t = e t)) (fun v5 _ => m - (intOf v5).toNat)
  case atStart => exact ⟨0, rfl, Nat.zero_le _, Nat.zero_le _, Lib.hid ⟨⟨0, rfl⟩, fun t h => by omega⟩⟩
  case round =>
    obtain ⟨i, rfl, hi, hin, hM⟩ := hrel
    rcases Nat.eq_or_lt_of_le hi with rfl | him
    · have hbf : b = false := by
        rw [HB.out]
        exact decide_eq_false (Nat.not_lt.2 (lex_ge d e n i hin fun t h => hM.out.2 t h))
      subst hbf
      go_wp2_with fail
      go_returns
      exact ⟨rfl, hM.out.1⟩
    · rcases Nat.eq_or_lt_of_le hin with rfl | hin2
      · have hbt : b = true := by
          rw [HB.out]
          exact decide_eq_true (lex_short d e i m him (fun t h => hM.out.2 t h) HH.out.2.2.2.2.2.2)
        subst hbt
        go_wp2_with fail
        go_returns
        exact ⟨rfl, hM.out.1⟩
      · have hil : i < l.length := by rw [HH.out.2.1]; exact him
        have hy := byte_at s l HH.out.1 i hil
        rw [← HH.out.2.2.1 i hil] at hy
        have hcc : wr.cell? ⟨a, i, none⟩ = some (.int .u8 ((d i).toNat : Int)) := by
          obtain ⟨q, h⟩ := hM.out.1
          rw [h]
          exact HH.out.2.2.2.1 i hin2
        obtain ⟨x, hx⟩ : ∃ x, x = (d i).toNat := ⟨_, rfl⟩
        obtain ⟨y, hy0⟩ : ∃ y, y = (e i).toNat := ⟨_, rfl⟩
        rw [← hx] at hcc
        rw [← hy0] at hy
        have HX := Lib.hid (And.intro hx hy0)
        clear hx hy0 hi hin
        have hdr : ∀ k, ∃ q, wr.drewN k = w.drewN q := fun k => by
          obtain ⟨q, h⟩ := hM.out.1
          exact ⟨q + k, by rw [h, World.drewN_drewN]⟩
        have HDR := Lib.hid hdr
        clear hdr
        by_cases hxy : x = y
        · have hq : ((x : Int) == (y : Int)) = true := by simp; omega
          have hq2 : ((x : Int) != (y : Int)) = false := by simp; omega
          have HXY := Lib.hid hxy
          clear hxy
          go_wp2_with fail
          go_quiet (fail)
          go_wp2_with fail
          refine ⟨⟨i + 1, by go_num, by omega, by omega, Lib.hid ⟨HDR.out _, fun t ht => ?_⟩⟩, by simp [intOf]; omega⟩
          by_cases hti : t = i
          · rw [hti]
            exact UInt8.toNat_inj.1 (by rw [← HX.out.1, ← HX.out.2, HXY.out])
          · exact hM.out.2 t (by omega)
        · have hq : ((x : Int) == (y : Int)) = false := by simp; omega
          have hq2 : ((x : Int) != (y : Int)) = true := by simp; omega
          have hbd : b = decide (x < y) := by
            rw [HB.out]
            rcases Nat.lt_or_ge x y with h | h
            · rw [decide_eq_true h]
              exact decide_eq_true (lex_lt d e n m i hin2 him (fun t h => hM.out.2 t h) HH.out.2.2.2.2.1 (by rw [← HX.out.1, ← HX.out.2]; exact h))
            · rw [decide_eq_false (Nat.not_lt.2 h)]
              exact decide_eq_false (Nat.not_lt.2 (Nat.le_of_lt (lex_lt e d m n i him hin2 (fun t h => (hM.out.2 t h).symm) HH.out.2.2.2.2.2.1 (by rw [← HX.out.1, ← HX.out.2]; omega))))
          have HBD := Lib.hid hbd
          clear hbd hxy
          go_wp2_with fail
          go_quiet (fail)
          obtain ⟨wk, hwk⟩ : ∃ wk, wk = wr.drewN nq := ⟨_, rfl⟩
          rw [← hwk]
          have hcc2 : wk.cell? ⟨a, i, none⟩ = some (.int .u8 (x : Int)) := by rw [hwk]; exact hcc
          have HW := Lib.hid hwk
          clear hwk hcc
          go_wp2_with fail
          go_quiet (fail)
          go_wp2_with fail
          go_returns
          refine ⟨?_, ?_⟩
          · rw [HBD.out]
            rfl
          · rw [HW.out, World.drewN_drewN]
            exact HDR.out _
#print axioms prefix_walk
end Go.Proofs.YtnfddblpenninaaDoor
/- A decimal times a power of two: how many digits come to it. -/
namespace Go.Proofs.YtnfddblpenninaaDoor
open Go.RowKit

def cutD (k : Nat) : Nat → UInt8 := fun i => (rowC k).2.getD i 48
def cutN (k : Nat) : Nat := (rowC k).2.length
theorem cut_facts : ∀ k : Fin 17, sufN (cutD (k.val + 1)) 0 (cutN (k.val + 1)) = 5 ^ (k.val + 1) ∧ (rowC (k.val + 1)).1 + cutN (k.val + 1) = k.val + 1 + 1 ∧ 1 ≤ cutN (k.val + 1) ∧ cutN (k.val + 1) ≤ k.val + 1 ∧
    10 ^ (cutN (k.val + 1) - 1) ≤ 5 ^ (k.val + 1) ∧ 5 ^ (k.val + 1) < 10 ^ cutN (k.val + 1) ∧ 48 < (cutD (k.val + 1) (cutN (k.val + 1) - 1)).toNat ∧
    (∀ t, t < cutN (k.val + 1) → 48 ≤ (cutD (k.val + 1) t).toNat ∧ (cutD (k.val + 1) t).toNat ≤ 57) := by decide +kernel
theorem sufN_lead (d : Nat → UInt8) (n : Nat) (h : Lead d n) : 10 ^ (n - 1) ≤ sufN d 0 n := by
  obtain ⟨h0, h1, h2⟩ := h
  obtain ⟨p, rfl⟩ : ∃ p, n = p + 1 := ⟨n - 1, by omega⟩
  have h3 := (h1 0 (by omega)).1
  rw [sufN, Nat.add_sub_cancel]
  have : 1 * 10 ^ p ≤ ((d 0).toNat - 48) * 10 ^ p := Nat.mul_le_mul_right _ (by omega)
  omega
/-- How many digits come to it. -/
theorem shift_digits (N n k m dl : Nat) (hN1 : 10 ^ (n - 1) ≤ N) (hN2 : N < 10 ^ n) (hn : 0 < n) (hdl : dl + m = k + 1) (hm1 : 1 ≤ m) (hmk : m ≤ k) (h5 : 10 ^ (m - 1) ≤ 5 ^ k) (h5' : 5 ^ k < 10 ^ m) :
    (N * 10 ^ m < 5 ^ k * 10 ^ n → 10 ^ (n + (dl - 1) - 1) ≤ N * 2 ^ k ∧ N * 2 ^ k < 10 ^ (n + (dl - 1))) ∧
    (¬ N * 10 ^ m < 5 ^ k * 10 ^ n → 10 ^ (n + dl - 1) ≤ N * 2 ^ k ∧ N * 2 ^ k < 10 ^ (n + dl)) := by
  have h10 : 5 ^ k * 2 ^ k = 10 ^ k := by rw [← Nat.mul_pow]
  have hp : ∀ j, 0 < 10 ^ j := fun j => Nat.pow_pos (by decide)
  have h2 : 0 < 2 ^ k := Nat.pow_pos (by decide)
  constructor
  · intro h
    constructor
    · -- from below
      refine Nat.le_of_mul_le_mul_right (c := 10 ^ m) ?_ (hp m)
      rw [← Nat.pow_add, show n + (dl - 1) - 1 + m = n - 1 + k by omega, Nat.pow_add, Nat.mul_assoc]
      exact Nat.mul_le_mul hN1 (by rw [← h10, Nat.mul_comm]; exact Nat.mul_le_mul_left _ (Nat.le_of_lt h5'))
    · refine Nat.lt_of_mul_lt_mul_right (a := 10 ^ m) ?_
      rw [← Nat.pow_add, show n + (dl - 1) + m = k + n by omega, Nat.pow_add, ← h10, Nat.mul_right_comm, Nat.mul_right_comm (5 ^ k)]
      exact Nat.mul_lt_mul_of_pos_right h h2
  · intro h
    constructor
    · refine Nat.le_of_mul_le_mul_right (c := 10 ^ m) ?_ (hp m)
      rw [← Nat.pow_add, show n + dl - 1 + m = k + n by omega, Nat.pow_add, ← h10, Nat.mul_right_comm N, Nat.mul_right_comm (5 ^ k)]
      exact Nat.mul_le_mul_right _ (by omega)
    · refine Nat.lt_of_mul_lt_mul_right (a := 10 ^ (m - 1)) ?_
      rw [← Nat.pow_add, show n + dl + (m - 1) = n + k by omega, Nat.pow_add, Nat.mul_assoc]
      refine Nat.lt_of_lt_of_le (Nat.mul_lt_mul_of_pos_right hN2 (Nat.mul_pos h2 (hp _))) (Nat.mul_le_mul_left _ ?_)
      rw [← h10, Nat.mul_comm]
      exact Nat.mul_le_mul_right _ h5
end Go.Proofs.YtnfddblpenninaaDoor
