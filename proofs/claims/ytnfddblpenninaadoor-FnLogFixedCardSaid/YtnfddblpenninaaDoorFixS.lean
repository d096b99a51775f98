/- A decimal in memory: 800 digits, how many of them count, where the point stands; zeros at the end are dropped. -/
import Derived.Test.YtnfddblpenninaaDoorFixR
namespace Go.Proofs.YtnfddblpenninaaDoor
open Go.RowKit

/-- The number of n digits from place a on. -/
def sufN (d : Nat → UInt8) (a : Nat) : Nat → Nat
  | 0 => 0
  | n + 1 => ((d a).toNat - 48) * 10 ^ n + sufN d (a + 1) n
theorem sufN_congr {d d' : Nat → UInt8} : ∀ (n a : Nat), (∀ i, a ≤ i → i < a + n → d i = d' i) → sufN d a n = sufN d' a n
  | 0, _, _ => rfl
  | n + 1, a, h => by
    rw [sufN, sufN, h a (Nat.le_refl _) (by omega), sufN_congr n (a + 1) fun i h1 h2 => h i (by omega) (by omega)]
theorem sufN_snoc (d : Nat → UInt8) : ∀ (n a : Nat), sufN d a (n + 1) = sufN d a n * 10 + ((d (a + n)).toNat - 48)
  | 0, a => by simp [sufN]
  | n + 1, a => by
    rw [sufN, sufN_snoc d n (a + 1), sufN, show a + 1 + n = a + (n + 1) by omega, Nat.pow_succ, Nat.add_mul, Nat.mul_assoc]
    omega
theorem sufN_lt (d : Nat → UInt8) (n a : Nat) (h : ∀ i, a ≤ i → i < a + n → (d i).toNat ≤ 57) : sufN d a n < 10 ^ n := by
  induction n generalizing a with
  | zero => simp [sufN]
  | succ n ih =>
    rw [sufN, Nat.pow_succ]
    have h1 := ih (a + 1) fun i h1 h2 => h i (by omega) (by omega)
    have h2 := h a (Nat.le_refl _) (by omega)
    have h3 : ((d a).toNat - 48) * 10 ^ n ≤ 9 * 10 ^ n := Nat.mul_le_mul_right _ (by omega)
    omega
theorem sufN_split (d : Nat → UInt8) (n : Nat) : ∀ (m a : Nat), sufN d a (n + m) = sufN d a n * 10 ^ m + sufN d (a + n) m
  | 0, a => by simp [sufN]
  | m + 1, a => by
    rw [← Nat.add_assoc, sufN_snoc, sufN_split d n m a, sufN_snoc d m (a + n), Nat.add_assoc a n m, Nat.pow_succ, Nat.add_mul, Nat.mul_assoc]
    omega
/-- A digit put in place. -/
def putD (d : Nat → UInt8) (i : Nat) (c : UInt8) : Nat → UInt8 := fun j => if j = i then c else d j
theorem putD_same (d : Nat → UInt8) (i : Nat) (c : UInt8) : putD d i c i = c := if_pos rfl
theorem putD_other (d : Nat → UInt8) {i j : Nat} (c : UInt8) (h : j ≠ i) : putD d i c j = d j := if_neg h

/-- Block a is a decimal. -/
def Dec (w : World) (a : Nat) (d : Nat → UInt8) (nd : Nat) (dp : Int) : Prop :=
  ∃ cs : Array Value, Whole w a 105 cs ∧ cs.size = 804 ∧ (∀ i, i < 800 → cs[i]? = some (byteV (d i))) ∧ cs[800]? = some (.int .i64 (nd : Int)) ∧ cs[801]? = some (.int .i64 dp) ∧ cs[803]? = some (.bool false)
theorem Dec.lt {w : World} {a nd : Nat} {d : Nat → UInt8} {dp : Int} (h : Dec w a d nd dp) : a < w.heap.size := by obtain ⟨_, h, _⟩ := h; exact h.lt
theorem Dec.dig {w : World} {a nd : Nat} {d : Nat → UInt8} {dp : Int} (h : Dec w a d nd dp) (i : Nat) (hi : i < 800) : w.cell? ⟨a, i, none⟩ = some (.int .u8 ((d i).toNat : Int)) := by
  obtain ⟨cs, hw, _, hc, _⟩ := h
  rw [hw.cell, hc i hi]
  rfl
theorem Dec.cnt {w : World} {a nd : Nat} {d : Nat → UInt8} {dp : Int} (h : Dec w a d nd dp) : w.cell? ⟨a, 800, none⟩ = some (.int .i64 (nd : Int)) := by
  obtain ⟨cs, hw, _, _, hc, _⟩ := h
  rw [hw.cell, hc]
theorem Dec.pt {w : World} {a nd : Nat} {d : Nat → UInt8} {dp : Int} (h : Dec w a d nd dp) : w.cell? ⟨a, 801, none⟩ = some (.int .i64 dp) := by
  obtain ⟨cs, hw, _, _, _, hc, _⟩ := h
  rw [hw.cell, hc]
theorem Dec.tr {w : World} {a nd : Nat} {d : Nat → UInt8} {dp : Int} (h : Dec w a d nd dp) : w.cell? ⟨a, 803, none⟩ = some (.bool false) := by
  obtain ⟨cs, hw, _, _, _, _, hc⟩ := h
  rw [hw.cell, hc]
theorem Dec.frozen {w : World} {a nd : Nat} {d : Nat → UInt8} {dp : Int} (h : Dec w a d nd dp) (i : Nat) : w.frozen? ⟨a, i, none⟩ = false := by
  obtain ⟨cs, hw, _⟩ := h
  exact hw.frozen i
theorem Dec.keep {S : Nat → Prop} {w w' : World} {a nd : Nat} {d : Nat → UInt8} {dp : Int} (h : Dec w a d nd dp) (k : Keeps S w w') (hS : ¬ S a) : Dec w' a d nd dp := by
  obtain ⟨cs, hw, r⟩ := h
  exact ⟨cs, hw.keep k hS, r⟩
theorem Dec.drewN {w : World} {a nd : Nat} {d : Nat → UInt8} {dp : Int} (h : Dec w a d nd dp) (n : Nat) : Dec (w.drewN n) a d nd dp := by
  obtain ⟨cs, hw, r⟩ := h
  exact ⟨cs, hw.drewN n, r⟩
theorem Dec.setDig {w : World} {a nd : Nat} {d : Nat → UInt8} {dp : Int} (h : Dec w a d nd dp) (i : Nat) (c : UInt8) (v : Int) (hv : v = (c.toNat : Int)) (hi : i < 800) : Dec (w.setCell ⟨a, i, none⟩ (.int .u8 v)) a (putD d i c) nd dp := by
  subst hv
  obtain ⟨cs, hw, hs, h1, h2, h3, h4⟩ := h
  refine ⟨_, hw.set i _, by simpa using hs, fun j hj => ?_, ?_, ?_, ?_⟩
  · rw [Array.getElem?_setIfInBounds]
    by_cases hij : i = j
    · subst hij
      rw [if_pos rfl, if_pos (by omega), putD_same]
      rfl
    · rw [if_neg hij, h1 j hj, putD_other d c (fun h => hij h.symm)]
  all_goals
    rw [Array.getElem?_setIfInBounds, if_neg (by omega)]
    assumption
theorem Dec.setCnt {w : World} {a nd : Nat} {d : Nat → UInt8} {dp : Int} (h : Dec w a d nd dp) (k : Nat) (v : Int) (hv : v = (k : Int)) : Dec (w.setCell ⟨a, 800, none⟩ (.int .i64 v)) a d k dp := by
  subst hv
  obtain ⟨cs, hw, hs, h1, h2, h3, h4⟩ := h
  refine ⟨_, hw.set 800 _, by simpa using hs, fun j hj => ?_, ?_, ?_, ?_⟩
  · rw [Array.getElem?_setIfInBounds, if_neg (by omega), h1 j hj]
  · rw [Array.getElem?_setIfInBounds, if_pos rfl, if_pos (by omega)]
  all_goals
    rw [Array.getElem?_setIfInBounds, if_neg (by omega)]
    assumption
theorem Dec.setPt {w : World} {a nd : Nat} {d : Nat → UInt8} {dp : Int} (h : Dec w a d nd dp) (v : Int) : Dec (w.setCell ⟨a, 801, none⟩ (.int .i64 v)) a d nd v := by
  obtain ⟨cs, hw, hs, h1, h2, h3, h4⟩ := h
  refine ⟨_, hw.set 801 _, by simpa using hs, fun j hj => ?_, ?_, ?_, ?_⟩
  · rw [Array.getElem?_setIfInBounds, if_neg (by omega), h1 j hj]
  · rw [Array.getElem?_setIfInBounds, if_neg (by omega), h2]
  · rw [Array.getElem?_setIfInBounds, if_pos rfl, if_pos (by omega)]
  · rw [Array.getElem?_setIfInBounds, if_neg (by omega), h4]

/-- What 'trim' leaves. -/
def TrimEnd (w : World) (a : Nat) (d : Nat → UInt8) (nd : Nat) (dp : Int) (e : Ending) (w' : World) : Prop :=
  e = .returned (.tuple #[]) ∧ ∃ k, k ≤ nd ∧ (∀ i, k ≤ i → i < nd → d i = 48) ∧ (k = 0 ∨ d (k - 1) ≠ 48) ∧ Dec w' a d k (if k = 0 then 0 else dp) ∧ Keeps (fun b => b = a) w w'
/-- How many digits count, read off the memory. -/
def cntAt (w : World) (a : Nat) : Nat := match w.cell? ⟨a, 800, none⟩ with | some (.int _ k) => k.toNat | _ => 0
theorem Dec.cntAt {w : World} {a nd : Nat} {d : Nat → UInt8} {dp : Int} (h : Dec w a d nd dp) : cntAt w a = nd := by
  unfold Go.Proofs.YtnfddblpenninaaDoor.cntAt
  rw [h.cnt]
  rfl
set_option maxRecDepth 100000 in
set_option maxHeartbeats 4000000 in
theorem trim_walk (a nd : Nat) (d : Nat → UInt8) (dp : Int) (w : World) (h : Dec w a d nd dp) (hnd : nd ≤ 800) :
    Calls Tryd.prog 87 #[.pointer (some ⟨a, 0, none⟩)] w (TrimEnd w a d nd dp) := by
  have HH := Lib.hid h
  clear h
  go_enter Tryd.func87, Tryd.ntmps87
  go_wp2_with fail
  go_loopw [] (fun wr => ∃ k, k ≤ nd ∧ Hid ((∀ i, k ≤ i → i < nd → d i = 48) ∧ Dec wr a d k dp ∧ Keeps (fun b => b = a) w wr)) (fun wr => cntAt wr a)
  case atStart =>
    exact ⟨nd, Nat.le_refl _, Lib.hid ⟨fun i h1 h2 => by omega, HH.out, Keeps.refl _ _⟩⟩
  case round =>
    obtain ⟨k, hk, hM⟩ := hrel
    have hend : ∀ (w3 : World) dp', (k = 0 ∨ d (k - 1) ≠ 48) → dp' = (if k = 0 then 0 else dp) → Dec w3 a d k dp' → Keeps (fun b => b = a) w w3 → TrimEnd w a d nd dp (.returned (.tuple #[])) w3 := fun w3 dp' h1 h2 h3 h4 => ⟨rfl, k, hk, hM.out.1, h1, h2 ▸ h3, h4⟩
    have HE := Lib.hid hend
    clear hend
    have hc := hM.out.2.1.cnt
    have hf := hM.out.2.1.frozen
    have hp := hM.out.2.1.pt
    rcases Nat.eq_zero_or_pos k with rfl | hk0
    · go_wp2_with fail
      go_quiet (fail)
      go_wp2_with fail
      go_returns
      exact HE.out _ 0 (by simp) (by simp) ((hM.out.2.1.drewN _).setPt 0) ((hM.out.2.2.drewN _).set (p := ⟨a, 801, none⟩) (.inl rfl) _)
    · obtain ⟨j, rfl⟩ : ∃ j, k = j + 1 := ⟨k - 1, by omega⟩
      have hd := hM.out.2.1.dig j (by omega)
      obtain ⟨x, hx⟩ : ∃ x, x = d j := ⟨_, rfl⟩
      rw [← hx] at hd
      have HX := Lib.hid hx
      clear hx
      by_cases hx48 : x.toNat = 48
      · have hq : ((x.toNat : Int) == 48) = true := by simp; omega
        have H48 := Lib.hid hx48
        clear hx48
        go_wp2_with fail
        go_quiet (fail)
        go_wp2_with fail
        have hD := (hM.out.2.1.drewN nq).setCnt j (j : Int) rfl
        refine ⟨⟨j, by omega, Lib.hid ⟨fun i h1 h2 => ?_, hD, (hM.out.2.2.drewN nq).set (p := ⟨a, 800, none⟩) (.inl rfl) _⟩⟩, ?_⟩
        · by_cases hij : i = j
          · rw [hij, ← HX.out]
            exact UInt8.toNat_inj.1 (by rw [H48.out]; rfl)
          · exact hM.out.1 i (by omega) h2
        · rw [hD.cntAt, hM.out.2.1.cntAt]
          omega
      · have hq : ((x.toNat : Int) == 48) = false := by simp; omega
        have H48 := Lib.hid hx48
        clear hx48
        go_wp2_with fail
        go_quiet (fail)
        go_wp2_with fail
        go_returns
        refine HE.out _ dp (.inr ?_) (by rw [if_neg (by omega)]) (hM.out.2.1.drewN _) (hM.out.2.2.drewN _)
        rw [Nat.add_sub_cancel, ← HX.out]
        intro h
        exact H48.out (by rw [h]; rfl)
#print axioms trim_walk
end Go.Proofs.YtnfddblpenninaaDoor
