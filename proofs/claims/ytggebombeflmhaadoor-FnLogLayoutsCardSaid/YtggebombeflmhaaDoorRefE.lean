/- The reference's LLaid: its contract. -/
import Derived.Test.YtggebombeflmhaaDoorRefF
import Derived.Test.YtggebombeflmhaaDoorRefC
namespace Go.Proofs.YtggebombeflmhaaDoor
open Go.RowKit

theorem laid_src (S : Int) (F : Nat) (h0 : -4611686019 ≤ S) (h1 : S ≤ 4611686019) (hF : F < 1000000000) (w0 : World) :
    ∃ S1 : ByteArray, (∀ W, Below w0.heap.size w0 W → Calls Tryd.prog 10 #[.int .i64 (1000000000 * S + F), .int .i64 0, .bool true] W fun e w' => e = .returned (.string S1) ∧ Below w0.heap.size w0 w') ∧ FracSrc S1 F ∧ S1.size ≤ 60 := by
  have hn : ((dayN S 0 : Nat) : Int) = S / 86400 + 719468 := by unfold dayN; omega
  have hs : ((secN S 0 : Nat) : Int) = S % 86400 := by unfold secN; omega
  have st := fun W hW => stamp_plain S (dayN S 0) (secN S 0) (by omega) (by omega) (by omega) (by omega) (by omega) (by omega) (1000000000 * S + F) F (by omega) (by omega) (by omega) w0 W hW
  by_cases hz : F = 0
  · refine ⟨⟨(stampL (dayN S 0) (secN S 0) ++ [90]).toArray⟩, fun W hW => (st W hW).2.1 (by omega), .inl ⟨?_, by rw [hz]; exact d9_zero⟩, ?_⟩
    · exact (by decide : (20 : Nat) ≤ 21)
    · exact (by decide : (20 : Nat) ≤ 60)
  · obtain ⟨hf, hp, h9⟩ : Frac F (trimF F) ∧ 0 < (trimF F).length ∧ (trimF F).length ≤ 9 := by
      obtain ⟨x, hx, hx0, hx9, hl⟩ : ∃ x, Frac F x ∧ 0 < x.length ∧ x.length ≤ 9 ∧ x.getLast? ≠ some 48 := trim_there hF (by omega)
      rw [← trim_unique hx hl]
      exact ⟨hx, hx0, hx9⟩
    have hlen : (stampL (dayN S 0) (secN S 0) ++ (46 :: trimF F) ++ [90]).length = 21 + (trimF F).length := by
      rw [List.length_append, List.length_append, stampL_len]
      simp
      omega
    have hsz : (⟨(stampL (dayN S 0) (secN S 0) ++ (46 :: trimF F) ++ [90]).toArray⟩ : ByteArray).size = 21 + (trimF F).length := by
      show (stampL (dayN S 0) (secN S 0) ++ (46 :: trimF F) ++ [90]).toArray.size = _
      rw [List.size_toArray, hlen]
    refine ⟨⟨(stampL (dayN S 0) (secN S 0) ++ (46 :: trimF F) ++ [90]).toArray⟩, fun W hW => ((st W hW).2.2 (by omega)).mono fun e w' h => ⟨by simpa using h.1.1, h.2⟩, .inr ⟨⟨(trimF F).toArray⟩, 20 + (trimF F).length, by omega, by omega, by omega, ?_, ?_, hf⟩, by omega⟩
    · have := part_at ⟨(stampL (dayN S 0) (secN S 0) ++ (46 :: trimF F) ++ [90]).toArray⟩ _ rfl 20 (20 + (trimF F).length) (by omega) (by rw [hlen]; omega)
      rw [show 20 + (trimF F).length - 20 = (trimF F).length by omega, stamp_slice _ _ (stampL_len _ _)] at this
      exact this
    · show (trimF F).toArray.size ≤ 9
      rw [List.size_toArray]
      exact h9

def B (l : List UInt8) : ByteArray := ⟨l.toArray⟩
theorem B_size (l : List UInt8) (n : Nat) (h : l.length ≤ n) : (B l).size ≤ n := by
  show l.toArray.size ≤ n
  rw [List.size_toArray]
  exact h

theorem laid_any (S off mm : Int) (F k : Nat) (h0 : -4611686019 ≤ S) (h1 : S ≤ 4611686019) (hF : F < 1000000000) (hm0 : -840 ≤ mm) (hm1 : mm ≤ 840) (ho : off = 60 * mm) (hk : k < 11) (w0 w : World) (hB : Below w0.heap.size w0 w) :
    Calls Tryd.prog 6 #[.int .i64 (1000000000 * S + F), .int .i64 off, .int .i64 k] w fun e w' => e = .returned (.string ⟨(render (dayN S off) (secN S off) F mm (layC k)).toArray⟩) ∧ Below w0.heap.size w0 w' := by
  obtain ⟨S1, G1, HFS, hs1⟩ := laid_src S F h0 h1 hF w0
  obtain ⟨N, hN⟩ : ∃ N, N = dayN S off := ⟨_, rfl⟩
  obtain ⟨s, hs⟩ : ∃ s, s = secN S off := ⟨_, rfl⟩
  have hNi : (N : Int) = (S + off) / 86400 + 719468 := by rw [hN]; unfold dayN; omega
  have hsi : (s : Int) = (S + off) % 86400 := by rw [hs]; unfold secN; omega
  have hs1' : s < 86400 := by omega
  have hN0 : 655360 ≤ N := by omega
  have hN1 : N < 786432 := by omega
  rw [← hN, ← hs]
  have hcb := civ_bounds N
  have st := fun W hW => stamp_plain (S + off) N s (by omega) (by omega) (by omega) (by omega) (by omega) (by omega) (S * 1000000000 + off * 1000000000) 0 (by omega) (by omega) (by omega) w0 W hW
  obtain ⟨j, hj⟩ : ∃ j : Nat, (j : Int) = ((N : Int) - 719468) % 7 := ⟨(((N : Int) - 719468) % 7).toNat, by omega⟩
  have hj7 : j < 7 := by omega
  have hwk : (N + 3) % 7 = (j + 4) % 7 := by omega
  have T0 : (B (stampL N s ++ [90])).data.toList = stampL N s ++ [90] := rfl
  have r1 := dg_range (civM N / 10)
  have r2 := dg_range (civM N)
  have r3 := dg_range (s / 3600 / 10)
  have r4 := dg_range (s / 3600)
  have hmd := dg_dg (civM N) (by omega)
  have hhd := dg_dg (s / 3600) (by omega)
  obtain ⟨ab, hab⟩ : ∃ ab : Int, ab = if off < 0 then -off else off := ⟨_, rfl⟩
  have hab2 : ab = 60 * (mm.natAbs : Int) := by
    rw [hab]
    split <;> omega
  have hup := under_parts (D := civD N) (by omega) (by omega) N s F mm rfl
  have key := laid_walk (1000000000 * S + F) off S (S * 1000000000 + off * 1000000000) (S + off) ((N : Int) - 719468) (((N : Int) - 719468) / 7) ((dg (civM N / 10)).toNat) ((dg (civM N)).toNat) ((dg (civD N / 10)).toNat) ((dg (s / 3600 / 10)).toNat) ((dg (s / 3600)).toNat) ((s / 3600 : Nat) : Int) ((((s / 3600 : Nat) : Int) + 11) % 12 + 1) ab (ab / 3600) (ab / 60 % 60)
    F j (civM N - 1) k S1 (B (stampL N s ++ [90])) (B (d4 (civY N))) (B (d2 (civM N))) (B (d2 (civD N))) (B (d2 (s / 3600))) (B (d2 (s % 3600 / 60))) (B (d2 (s % 60))) (B (d4 (civY N) ++ (45 :: (d2 (civM N) ++ (45 :: d2 (civD N)))))) (B [dg (civY N / 10), dg (civY N)]) (B [dg (civD N)]) (B (wk3 ((j + 4) % 7))) (B (mo3 (civM N - 1 + 1))) (B (d2 (ab / 3600).toNat)) (B (d2 (ab / 60 % 60).toNat)) (B (digs ((((s / 3600 : Nat) : Int) + 11) % 12 + 1).toNat)) w0 w hB
    (by omega) (by omega) (by omega) (by omega) (by omega) (by omega) (by omega) (by omega) hj7 (by omega) r1.1 r1.2 r2.1 r2.2 r3.1 r3.2 r4.1 r4.2 (by omega) (by omega) (by omega) (by omega) hF
    rfl rfl (by omega) (by omega) rfl rfl rfl hhd
    (Lib.hid G1)
    (Lib.hid fun W => by
      have := floor_any (1000000000 * S + F) 1000000000 (by decide) (by decide) (by omega) (by omega) W
      rw [show (1000000000 * S + F) / 1000000000 = S by omega] at this
      exact this)
    (Lib.hid fun W hW => (st W hW).1)
    (Lib.hid fun W => by
      have := floor_any (S + off) 86400 (by decide) (by decide) (by omega) (by omega) W
      rw [show (S + off) / 86400 = (N : Int) - 719468 by omega] at this
      exact this)
    (Lib.hid fun W => floor_any ((N : Int) - 719468) 7 (by decide) (by decide) (by omega) (by omega) W)
    (Lib.hid fun W hW => padded2 (ab / 3600) (by omega) (by omega) w0 W hW)
    (Lib.hid fun W hW => padded2 (ab / 60 % 60) (by omega) (by omega) w0 W hW)
    (Lib.hid fun W hW => unsigned_any _ (by omega) (by omega) w0 W hW)
    hs1 (Lib.hid HFS)
    (ahead_at _ _ T0 4 (by rw [List.length_append, stampL_len]; decide)) (part_at _ _ T0 5 7 (by decide) (by rw [List.length_append, stampL_len]; decide)) (part_at _ _ T0 8 10 (by decide) (by rw [List.length_append, stampL_len]; decide)) (part_at _ _ T0 11 13 (by decide) (by rw [List.length_append, stampL_len]; decide))
    (part_at _ _ T0 14 16 (by decide) (by rw [List.length_append, stampL_len]; decide)) (part_at _ _ T0 17 19 (by decide) (by rw [List.length_append, stampL_len]; decide)) (ahead_at _ _ T0 10 (by rw [List.length_append, stampL_len]; decide))
    (tail_at (B (d4 (civY N))) (d4 (civY N)) rfl 2 (by decide : (2 : Nat) ≤ 4)) (tail_at (B (d2 (civD N))) (d2 (civD N)) rfl 1 (by decide : (1 : Nat) ≤ 2))
    (byte_at (B (d2 (civM N))) (d2 (civM N)) rfl 0 (by decide : (0 : Nat) < 2)) (byte_at (B (d2 (civM N))) (d2 (civM N)) rfl 1 (by decide : (1 : Nat) < 2)) (byte_at (B (d2 (civD N))) (d2 (civD N)) rfl 0 (by decide : (0 : Nat) < 2))
    (byte_at (B (d2 (s / 3600))) (d2 (s / 3600)) rfl 0 (by decide : (0 : Nat) < 2)) (byte_at (B (d2 (s / 3600))) (d2 (s / 3600)) rfl 1 (by decide : (1 : Nat) < 2))
    (by decide : (4 : Nat) ≤ 9) (by decide : (2 : Nat) ≤ 9) (by decide : (2 : Nat) ≤ 9) (by decide : (2 : Nat) ≤ 9) (by decide : (2 : Nat) ≤ 9) (by decide : (2 : Nat) ≤ 9) (by decide : (10 : Nat) ≤ 10) (by decide : (2 : Nat) ≤ 9) (by decide : (1 : Nat) ≤ 9)
    (B_size _ 9 (by rw [wk3_len]; decide)) (B_size _ 9 (by rw [mo3_len]; decide)) (by decide : (2 : Nat) ≤ 9) (by decide : (2 : Nat) ≤ 9) (B_size _ 9 (Nat.le_trans (digs_two (by omega)) (by decide))) hk
    (shown N s F mm .under) (Lib.hid hup) (Lib.hid hab) (week_at j hj7) (mon_at (civM N - 1) (by omega))
  refine key.mono fun e w' h => ⟨?_, h.2⟩
  rw [h.1]
  congr 3
  refine congrArg List.toArray ?_
  have e1 : wk3 ((j + 4) % 7) = shown N s F mm .mon := by rw [← hwk]; rfl
  have e2 : mo3 (civM N - 1 + 1) = shown N s F mm .jan := by rw [show civM N - 1 + 1 = civM N by omega]; rfl
  have e3 : [dg (civY N / 10), dg (civY N)] = shown N s F mm .yr := yr_tail _
  have e4 : digs ((((s / 3600 : Nat) : Int) + 11) % 12 + 1).toNat = shown N s F mm .h12 := by rw [hour12]; rfl
  have e5 : ((if off < 0 then 45 else 43) :: (d2 (ab / 3600).toNat ++ d2 (ab / 60 % 60).toNat) : List UInt8) = shown N s F mm .zone := by
    show _ = zoneOf mm
    unfold zoneOf
    rw [show (ab / 3600).toNat = mm.natAbs / 60 by omega, show (ab / 60 % 60).toNat = mm.natAbs % 60 by omega]
    congr 1
    by_cases hz : mm < 0
    · rw [if_pos hz, if_pos (by omega)]
    · rw [if_neg hz, if_neg (by omega)]
  have e6 : (if ((s / 3600 : Nat) : Int) < 12 then [65, 77] else [80, 77] : List UInt8) = shown N s F mm .pm := by
    show _ = if s / 3600 < 12 then ([65, 77] : List UInt8) else [80, 77]
    by_cases hz : s / 3600 < 12
    · rw [if_pos hz, if_pos (by omega)]
    · rw [if_neg hz, if_neg (by omega)]
  show laidL (wk3 ((j + 4) % 7)) (mo3 (civM N - 1 + 1)) (shown N s F mm .under) (d4 (civY N)) [dg (civY N / 10), dg (civY N)] (d2 (civD N)) (d2 (s / 3600)) (d2 (s % 3600 / 60)) (d2 (s % 60)) (d4 (civY N) ++ (45 :: (d2 (civM N) ++ (45 :: d2 (civD N))))) (d9 F) (digs ((((s / 3600 : Nat) : Int) + 11) % 12 + 1).toNat) off ((s / 3600 : Nat) : Int) (d2 (ab / 3600).toNat) (d2 (ab / 60 % 60).toNat) k = _
  rw [e1, e2, e3, e4]
  rcases (by omega : k = 0 ∨ k = 1 ∨ k = 2 ∨ k = 3 ∨ k = 4 ∨ k = 5 ∨ k = 6 ∨ k = 7 ∨ k = 8 ∨ k = 9 ∨ k = 10) with rfl | rfl | rfl | rfl | rfl | rfl | rfl | rfl | rfl | rfl | rfl
  all_goals
    simp only [laidL, render, layC, e5, e6, List.append_nil, List.nil_append]
    try rfl
end Go.Proofs.YtggebombeflmhaaDoor
