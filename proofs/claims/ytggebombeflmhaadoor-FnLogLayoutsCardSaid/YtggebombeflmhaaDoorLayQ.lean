/- A time by a layout: what the walks at the layouts share. -/
import Derived.Test.YtggebombeflmhaaDoorLayI
import Derived.Test.YtggebombeflmhaaDoorLayM
import Derived.Test.YtggebombeflmhaaDoorLayE
import Derived.Deep.DeepCutAuto
import Derived.LoopTactic
namespace Go.Proofs.YtggebombeflmhaaDoor
open Go.RowKit

/-- One step, by texts that have names. -/
theorem chunk_named (p : List UInt8) (t : Tok) (R : List UInt8) (h : pairOk p t R = true) (s pb rb : ByteArray) (hp : pb = ⟨p.toArray⟩) (hr : rb = ⟨R.toArray⟩) (hs : s.data.toList = p ++ (tokText t ++ R)) (h60 : s.size ≤ 60) (C : Int) (hC : C = tokCode t) (w : World) (hT : Tabs w) :
    Calls Tryd.prog 35 #[.string s] w fun e w' => e = .returned (.tuple #[.string pb, .int .i64 C, .string rb]) ∧ Below w.heap.size w w' := by
  subst hp hr hC
  exact chunk_any p t R h s hs h60 w hT
theorem nano3 (b n : Nat) (F : Int) (l : List UInt8) (h0 : 0 ≤ F) (h1 : F < 1000000000) (hn : l.length = n) (h64 : n + 10 ≤ 64) (w : World) (hB : Buf w b l) :
    Calls Tryd.prog 33 #[.slice (some ⟨b, 0, none⟩) n 64, .int .i64 F, .int .i64 196642] w fun e w' => Put b (l ++ 46 :: (d9 F.toNat).take 3) w e w' := nano_app b n F 3 l (.inl rfl) h0 h1 hn h64 w hB
theorem nano6 (b n : Nat) (F : Int) (l : List UInt8) (h0 : 0 ≤ F) (h1 : F < 1000000000) (hn : l.length = n) (h64 : n + 10 ≤ 64) (w : World) (hB : Buf w b l) :
    Calls Tryd.prog 33 #[.slice (some ⟨b, 0, none⟩) n 64, .int .i64 F, .int .i64 393250] w fun e w' => Put b (l ++ 46 :: (d9 F.toNat).take 6) w e w' := nano_app b n F 6 l (.inr rfl) h0 h1 hn h64 w hB
section
variable {N s F : Nat} {mm S off Y M D hh mi c wk A Dv : Int} {ms m3 ds d3 : ByteArray}
theorem under_lt (E : Env N s F mm S off Y M D hh mi c wk A Dv ms m3 ds d3) (h : D < 10) : [32] ++ digs D.toNat = shown N s F mm .under ∧ (digs D.toNat).length = 1 := by
  have hu := E.under
  rw [if_pos h] at hu
  have h0 := E.D0
  refine ⟨hu, ?_⟩
  have h1 := digs_len (k := 1) (v := D.toNat) (by decide) (by omega)
  have h2 := digs_pos D.toNat
  omega
theorem under_ge (E : Env N s F mm S off Y M D hh mi c wk A Dv ms m3 ds d3) (h : 10 ≤ D) : digs D.toNat = shown N s F mm .under ∧ (digs D.toNat).length = 2 := by
  have hu := E.under
  rw [if_neg (by omega), List.nil_append] at hu
  have h1 := E.D1
  refine ⟨hu, ?_⟩
  rw [digs_ten (by omega), digs_one (by omega)]
  rfl
theorem hour_z (E : Env N s F mm S off Y M D hh mi c wk A Dv ms m3 ds d3) (h : hh % 12 = 0) : digs (Int.toNat 12) = shown N s F mm .h12 := by
  have h0 := E.h0
  have h1 := E.h12
  rw [show hr12 hh.toNat = 12 by unfold hr12; rw [if_pos (by omega)]] at h1
  exact h1
theorem hour_n (E : Env N s F mm S off Y M D hh mi c wk A Dv ms m3 ds d3) (h : ¬ hh % 12 = 0) : digs (hh % 12).toNat = shown N s F mm .h12 := by
  have h0 := E.h0
  have h1 := E.h12
  rw [show hr12 hh.toNat = (hh % 12).toNat by unfold hr12; rw [if_neg (by omega)]; omega] at h1
  exact h1
theorem half_a (E : Env N s F mm S off Y M D hh mi c wk A Dv ms m3 ds d3) (h : hh < 12) : [65, 77] = shown N s F mm .pm := by
  have h1 := E.pm
  rw [if_pos h] at h1
  exact h1
theorem half_p (E : Env N s F mm S off Y M D hh mi c wk A Dv ms m3 ds d3) (h : 12 ≤ hh) : [80, 77] = shown N s F mm .pm := by
  have h1 := E.pm
  rw [if_neg (by omega)] at h1
  exact h1
end
theorem zone_neg (N s F : Nat) {q : Int} (h : 0 < q) : shown N s F (-q) .zone = [45] ++ (d2 (q / 60).toNat ++ d2 (q % 60).toNat) := by
  show zoneOf (-q) = _
  unfold zoneOf
  rw [if_pos (by omega), show (q / 60).toNat = (-q).natAbs / 60 by omega, show (q % 60).toNat = (-q).natAbs % 60 by omega]
  rfl
theorem zone_pos (N s F : Nat) {mm : Int} (h : 0 ≤ mm) : shown N s F mm .zone = [43] ++ (d2 (mm / 60).toNat ++ d2 (mm % 60).toNat) := by
  show zoneOf mm = _
  unfold zoneOf
  rw [if_neg (by omega), show (mm / 60).toNat = mm.natAbs / 60 by omega, show (mm % 60).toNat = mm.natAbs % 60 by omega]
  rfl
end Go.Proofs.YtggebombeflmhaaDoor
