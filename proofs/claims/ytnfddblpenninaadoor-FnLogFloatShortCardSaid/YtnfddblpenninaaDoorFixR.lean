/- A number's digits are laid into a row, and the zeros behind them are left out. -/
import Derived.Test.YtnfddblpenninaaDoorFixO
import Derived.Test.YtnfddblpenninaaDoorMgG
import Derived.BigQuiet
namespace Go.Proofs.YtnfddblpenninaaDoor
open Go.RowKit

/-- The number of digits. -/
def stepL (a : Nat) (c : UInt8) : Nat := a * 10 + (c.toNat - 48)
def numL (l : List UInt8) : Nat := l.foldl stepL 0
def IsDig (l : List UInt8) : Prop := ∀ c ∈ l, 48 ≤ c.toNat ∧ c.toNat ≤ 57
theorem foldl_stepL (l : List UInt8) : ∀ a, l.foldl stepL a = a * 10 ^ l.length + numL l := by
  unfold numL
  induction l with
  | nil => simp
  | cons c r ih =>
    intro a
    simp only [List.foldl_cons, List.length_cons]
    rw [ih, ih (stepL 0 c)]
    simp only [stepL, Nat.add_mul, Nat.zero_mul, Nat.zero_add, Nat.pow_succ]
    rw [Nat.mul_assoc, Nat.mul_comm 10, Nat.add_assoc]
theorem numL_append (l m : List UInt8) : numL (l ++ m) = numL l * 10 ^ m.length + numL m := by
  rw [numL, List.foldl_append, foldl_stepL]
  rfl
theorem numL_one (c : UInt8) : numL [c] = c.toNat - 48 := by simp [numL, stepL]
theorem numL_zeros (n : Nat) : numL (List.replicate n 48) = 0 := by
  induction n with
  | zero => rfl
  | succ n ih =>
    rw [List.replicate_succ', numL_append, ih, numL_one]
    rfl
theorem isDig_append {l m : List UInt8} (h : IsDig l) (k : IsDig m) : IsDig (l ++ m) := fun c hc => (List.mem_append.1 hc).elim (h c) (k c)
theorem isDig_take {l : List UInt8} (h : IsDig l) (n : Nat) : IsDig (l.take n) := fun c hc => h c (List.mem_of_mem_take hc)
theorem isDig_drop {l : List UInt8} (h : IsDig l) (n : Nat) : IsDig (l.drop n) := fun c hc => h c (List.mem_of_mem_drop hc)
theorem isDig_zeros (n : Nat) : IsDig (List.replicate n 48) := fun c hc => by
  rw [(List.mem_replicate.1 hc).2]
  decide
theorem digit_nat (d : Nat) (h : d < 10) : (UInt8.ofNat (48 + d)).toNat = 48 + d := by
  rw [UInt8.toNat_ofNat']
  omega
theorem numL_dec (u : Nat) : numL (Lib.decDigits u) = u ∧ IsDig (Lib.decDigits u) := by
  induction u using Nat.strongRecOn with
  | _ u ih =>
    rw [Lib.decDigits]
    split
    · rename_i h
      refine ⟨by rw [numL_one, digit_nat u h]; omega, fun c hc => ?_⟩
      rw [List.mem_singleton.1 hc, digit_nat u h]
      omega
    · rename_i h
      obtain ⟨h1, h2⟩ := ih (u / 10) (by omega)
      refine ⟨?_, isDig_append h2 fun c hc => ?_⟩
      · rw [numL_append, h1, numL_one, digit_nat _ (by omega)]
        simp only [List.length_singleton, Nat.pow_one]
        omega
      · rw [List.mem_singleton.1 hc, digit_nat _ (by omega)]
        omega
/-- What 'setDigits' leaves: k digits, behind which n - k zeros were. -/
def SetEnd (w : World) (g len u nd : Nat) (p : Int) (e : Ending) (w' : World) : Prop :=
  ∃ (k : Nat) (ds : List UInt8), e = .returned (.tuple #[.int .i64 ((nd : Int) + p), .int .i64 (k : Int)]) ∧ (k ≤ nd ∧ ds.length = k ∧ IsDig ds ∧ numL ds * 10 ^ (nd - k) = u) ∧ Digs w' (.slice (some ⟨g, 0, none⟩) len len) ds ∧ Keeps (fun b => b = g) w w'

theorem take_zero (ds : List UInt8) (k : Nat) (hk : k < ds.length) (h : ds[k] = 48) (u n : Nat) (hu : numL (ds.take (k + 1)) * 10 ^ n = u) : numL (ds.take k) * 10 ^ (n + 1) = u := by
  rw [← hu, List.take_succ_eq_append_getElem hk, numL_append, h, numL_one]
  simp only [List.length_singleton, Nat.pow_succ]
  rw [show (48 : UInt8).toNat - 48 = 0 by decide, Nat.add_zero, Nat.mul_assoc, Nat.mul_comm 10]

theorem keeps_putRow (w : World) (g : Nat) (dk : Array UInt8) (n : Nat) : Keeps (fun b => b = g) w ((Go.Sort.putRow (fun (b : UInt8) => Value.int .u8 (b.toNat : Int)) w g 0 dk).drewN n) := by
  refine ⟨rfl, rfl, rfl, by simp, fun k hk hn => ?_⟩
  show (Go.Sort.putRow _ w g 0 dk).heap[k]? = _
  unfold Go.Sort.putRow Go.Sort.mapBlock
  simp [Array.getElem?_modify]
  intro h
  exact absurd h.symm hn

set_option maxRecDepth 100000 in
set_option maxHeartbeats 4000000 in
theorem setd_walk {t : TypeId} (g len u nd : Nat) (p : Int) (cs : Array Value) (w : World) (hW : Whole w g t cs) (hlen : cs.size = len) (hz : ∀ i, i < len → cs[i]? = some (.int .u8 0)) (hu : u < 18446744073709551616) (hnd : nd = Lib.nDigits u) (hle : nd ≤ len) (hl2 : len ≤ 100) (hp1 : -1000 ≤ p) (hp2 : p ≤ 1000) :
    Calls Tryd.prog 60 #[.slice (some ⟨g, 0, none⟩) len len, .int .u64 (u : Int), .int .i64 p, .int .i64 (nd : Int)] w (SetEnd w g len u nd p) := by
  have c71 := Tryd.internal_strconv_formatBase10 g 0 len u (Array.replicate nd 0) w (fun j hj => by
    have hj' : j < nd := by simpa using hj
    refine ⟨?_, hW.frozen _⟩
    rw [hW.cell, Nat.zero_add, hz j (by omega), getElem!_pos _ j hj]
    simp) (by rw [Array.size_replicate, hnd]; exact Lib.lt_pow_nDigits u) hu (by rw [Array.size_replicate]; omega)
  rw [Array.size_replicate] at c71
  have hds := numL_dec u
  have hdl := Lib.decDigits_length u
  obtain ⟨ds, hdd⟩ : ∃ ds, ds = Lib.decDigits u := ⟨_, rfl⟩
  have hat : ∀ t (h : t < ds.length), Lib.dg u (nd - 1 - t) = ds[t] := fun t h => by
    have he : ds = (List.range nd).map fun t => Lib.dg u (nd - 1 - t) := by rw [hdd, hnd]; exact Lib.decDigits_eq u
    simp [he]
  rw [← hdd] at hds hdl
  rw [← hnd] at hdl
  have C71 := Lib.hid c71
  have HD := Lib.hid (And.intro hds (And.intro hdl hat))
  have HW := Lib.hid (And.intro hW (And.intro hlen (And.intro hz hnd)))
  clear c71 hds hdl hat hdd hW hlen hz hnd
  go_enter Tryd.func60, Tryd.ntmps60
  go_wp2_with (first | (go_at_call 71; refine C71.out.mono ?_; rintro e1 w1 ⟨rfl, n1, v1, dk, hw1, hI⟩; have H1 := Lib.hid (And.intro hw1 hI); clear hw1 hI))
  have hcell : ∀ j (h : j < ds.length), w1.cell? ⟨g, j, none⟩ = some (byteV ds[j]) := fun j h => by
    obtain ⟨hw1, hI⟩ := H1.out
    have hjn : j < nd := by rw [← HD.out.2.1]; exact h
    rw [hw1]
    have hget := Go.Sort.cell?_putRow (fun (b : UInt8) => Value.int .u8 (b.toNat : Int)) w g 0 (Array.replicate nd 0) dk (fun j hj => by
      have hj' : j < nd := by simpa using hj
      refine ⟨?_, HW.out.1.frozen _⟩
      rw [HW.out.1.cell, Nat.zero_add, HW.out.2.2.1 j (by omega), getElem!_pos _ j hj]
      simp) (by rw [hI.size]; simp) j (by rw [hI.size]; exact hjn)
    rw [Nat.zero_add] at hget
    refine Eq.trans ?_ (hget.trans ?_)
    · simp
    · rw [hI.done j (by omega) hjn, HD.out.2.2 j h]
      rfl
  have hk1 : Keeps (fun b => b = g) w w1 := by rw [H1.out.1]; exact keeps_putRow w g dk n1
  have HC := Lib.hid (And.intro hcell hk1)
  clear hcell hk1
  obtain ⟨wo, hwo⟩ : ∃ wo, wo = w1 := ⟨_, rfl⟩
  rw [← hwo] at HC ⊢
  clear H1 hwo
  go_loopw [3] (fun v3 wr => ∃ k : Nat, v3 = .int .i64 k ∧ k ≤ nd ∧ wr = wo ∧ Hid (numL (ds.take k) * 10 ^ (nd - k) = u)) (fun v3 _ => (intOf v3).toNat)
  case atStart =>
    refine ⟨nd, rfl, Nat.le_refl _, rfl, Lib.hid ?_⟩
    rw [List.take_of_length_le (by rw [HD.out.2.1]; exact Nat.le_refl _), HD.out.1.1, Nat.sub_self, Nat.pow_zero, Nat.mul_one]
  case round =>
    obtain ⟨k, rfl, hk, rfl, hM⟩ := hrel
    have hend : ∀ w3, w3 = wr → SetEnd w g len u nd p (.returned (.tuple #[.int .i64 ((nd : Int) + p), .int .i64 (k : Int)])) w3 := fun w3 h3 => by
      subst h3
      have hdl := HD.out.2.1
      refine ⟨k, ds.take k, rfl, ⟨hk, by rw [List.length_take]; omega, isDig_take HD.out.1.2 k, hM.out⟩, ⟨g, len, len, rfl, ?_, by rw [List.length_take]; omega, Nat.le_refl _, fun i hi => ?_⟩, HC.out.2⟩
      · exact Nat.lt_of_lt_of_le HW.out.1.lt HC.out.2.size
      · rw [List.getElem_take]
        exact HC.out.1 i (by rw [List.length_take] at hi; omega)
    have HE := Lib.hid hend
    clear hend
    rcases Nat.eq_zero_or_pos k with rfl | hk0
    · go_wp2_with fail
      go_returns
      exact HE.out _ rfl
    · obtain ⟨j, rfl⟩ : ∃ j, k = j + 1 := ⟨k - 1, by omega⟩
      have hjd : j < ds.length := by rw [HD.out.2.1]; omega
      obtain ⟨x, hx⟩ : ∃ x, x = ds[j] := ⟨_, rfl⟩
      have hc := HC.out.1 j hjd
      rw [← hx] at hc
      replace hc : wr.cell? ⟨g, j, none⟩ = some (.int .u8 (x.toNat : Int)) := hc
      have HX := Lib.hid hx
      clear hx
      by_cases hx48 : x.toNat = 48
      · have hq : ((x.toNat : Int) == 48) = true := by simp; omega
        have H48 := Lib.hid hx48
        clear hx48
        go_wp2_with fail
        refine ⟨⟨j, by go_num, by omega, trivial, Lib.hid ?_⟩, by simp [intOf]⟩
        have h1 := take_zero ds j hjd (UInt8.toNat_inj.1 (by rw [← HX.out, H48.out]; rfl)) u (nd - (j + 1)) hM.out
        rw [show nd - (j + 1) + 1 = nd - j by omega] at h1
        exact h1
      · have hq : ((x.toNat : Int) == 48) = false := by simp; omega
        have H48 := Lib.hid hx48
        clear hx48
        go_wp2_with fail
        go_returns
        exact HE.out _ rfl
#print axioms setd_walk
end Go.Proofs.YtnfddblpenninaaDoor
