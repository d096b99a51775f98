/- A time by a layout: what the walks at the layouts take is there. -/
import Derived.Test.YtggebombeflmhaaDoorLayQ
namespace Go.Proofs.YtggebombeflmhaaDoor
open Go.RowKit

set_option maxRecDepth 10000 in
theorem ahead_at (s : ByteArray) (l : List UInt8) (h : s.data.toList = l) (b : Nat) (hb : b ≤ l.length) : ∀ W, (Instr.slice 9 (.string s) none (some (.int .i64 (b : Int))) none).run Tryd.prog W = .ok (.string ⟨(l.take b).toArray⟩) W := fun W => by
  subst h
  have hs : b ≤ s.size := by simpa using hb
  have e : s.extract 0 b = (⟨(s.data.toList.take b).toArray⟩ : ByteArray) := by
    have := Lib.extract_eq s 0 b
    simpa using this
  rw [← e]
  have hu := Tryd.underlying9
  go_simp

theorem mo3_take (k : Nat) (h : k < 12) : (monName k).take 3 = mo3 (k + 1) := by
  have : k = 0 ∨ k = 1 ∨ k = 2 ∨ k = 3 ∨ k = 4 ∨ k = 5 ∨ k = 6 ∨ k = 7 ∨ k = 8 ∨ k = 9 ∨ k = 10 ∨ k = 11 := by omega
  rcases this with rfl | rfl | rfl | rfl | rfl | rfl | rfl | rfl | rfl | rfl | rfl | rfl <;> rfl
theorem wk3_take (k : Nat) (h : k < 7) : (dayName k).take 3 = wk3 k := by
  have : k = 0 ∨ k = 1 ∨ k = 2 ∨ k = 3 ∨ k = 4 ∨ k = 5 ∨ k = 6 := by omega
  rcases this with rfl | rfl | rfl | rfl | rfl | rfl | rfl <;> rfl
theorem monName_len (k : Nat) : 3 ≤ (monName k).length := by unfold monName; split <;> decide
theorem dayName_len (k : Nat) : 3 ≤ (dayName k).length := by unfold dayName; split <;> decide

/-- The day (since March 1 of the year 0) and the second of a moment in a zone. -/
def dayN (S off : Int) : Nat := ((S + off) / 86400 + 719468).toNat
def secN (S off : Int) : Nat := ((S + off) % 86400).toNat

theorem env_of (F : Nat) (mm S off : Int) (h0 : -4611686019 ≤ S) (h1 : S ≤ 4611686019) (hF : F < 1000000000) (hm0 : -840 ≤ mm) (hm1 : mm ≤ 840) (ho : off = 60 * mm) :
    ∃ Y M D hh mi c wk A Dv, ∃ ms m3 ds d3, Env (dayN S off) (secN S off) F mm S off Y M D hh mi c wk A Dv ms m3 ds d3 := by
  obtain ⟨N, hN⟩ : ∃ N, N = dayN S off := ⟨_, rfl⟩
  obtain ⟨s, hs⟩ : ∃ s, s = secN S off := ⟨_, rfl⟩
  have hNi : (N : Int) = (S + off) / 86400 + 719468 := by rw [hN]; unfold dayN; omega
  have hsi : (s : Int) = (S + off) % 86400 := by rw [hs]; unfold secN; omega
  have hsum : S + off = 86400 * ((N : Int) - 719468) + s := by omega
  have hN0 : 655360 ≤ N := by omega
  have hN1 : N < 786432 := by omega
  have hs1 : s < 86400 := by omega
  rw [← hN, ← hs]
  clear hN hs hNi hsi
  have hc := civ_bounds N
  have hy := civY_bounds hN0 hN1
  have hk : civM N - 1 < 12 := by omega
  have hw : (N + 3) % 7 < 7 := by omega
  refine ⟨(civY N : Int), (civM N : Int), (civD N : Int), (s : Int) / 3600, (s : Int) % 3600 / 60, (s : Int) % 60, (((N + 3) % 7 : Nat) : Int), 86400 * ((N : Int) + 106751990353932) + s, (N : Int) + 106751990353932,
    ⟨(monName (civM N - 1)).toArray⟩, ⟨(mo3 (civM N)).toArray⟩, ⟨(dayName ((N + 3) % 7)).toArray⟩, ⟨(wk3 ((N + 3) % 7)).toArray⟩, ?_⟩
  exact {
    hF := hF
    m0 := hm0
    m1 := hm1
    quo := by rw [ho, Int.mul_comm, Int.mul_tdiv_cancel _ (by decide)]
    offm := ho
    Y0 := by omega
    Y1 := by omega
    M0 := by omega
    M1 := by omega
    D0 := by omega
    D1 := by omega
    h0 := by omega
    h1 := by omega
    i0 := by omega
    i1 := by omega
    c0 := by omega
    c1 := by omega
    year := rfl
    yr := by
      show d2 _ = d2 _
      congr 1
    mond := rfl
    day := rfl
    under := by
      show _ = (if civD N < 10 then [32] else []) ++ digs (civD N)
      congr 1
      by_cases h : civD N < 10
      · rw [if_pos h, if_pos (by omega)]
      · rw [if_neg h, if_neg (by omega)]
    hour := by
      show d2 _ = d2 _
      congr 1
    min := by
      show d2 _ = d2 _
      congr 1
    sec := by
      show d2 _ = d2 _
      congr 1
    h12 := by
      show digs (hr12 _) = digs (hr12 _)
      congr 2
    pm := by
      show _ = if s / 3600 < 12 then ([65, 77] : List UInt8) else [80, 77]
      by_cases h : s / 3600 < 12
      · rw [if_pos h, if_pos (by omega)]
      · rw [if_neg h, if_neg (by omega)]
    mon := rfl
    jan := rfl
    loc := fun W => (loc_any S F off N s (by omega) (by omega) (by omega) (by omega) hsum W W (Below.refl _ _)).mono fun _ _ h => h
    days := fun W => days_any ((N : Int) + 106751990353932) s (by omega) (by omega) (by omega) (by omega) W
    date := fun W => date_any N (by omega) (by omega) W
    clock := fun W => clock_any ((N : Int) + 106751990353932) s (by omega) (by omega) (by omega) (by omega) W
    week := fun W => week_any N (by omega) (by omega) W
    month := fun W hT => by
      have := month_str (civM N - 1) hk W hT
      rw [show ((civM N - 1 : Nat) : Int) + 1 = (civM N : Int) by omega] at this
      exact this
    dayn := fun W hT => day_str ((N + 3) % 7) hw W hT
    sm := fun W => by
      have := ahead_at ⟨(monName (civM N - 1)).toArray⟩ (monName (civM N - 1)) rfl 3 (monName_len _) W
      rw [mo3_take _ hk, show civM N - 1 + 1 = civM N by omega] at this
      exact this
    sd := fun W => by
      have := ahead_at ⟨(dayName ((N + 3) % 7)).toArray⟩ (dayName ((N + 3) % 7)) rfl 3 (dayName_len _) W
      rw [wk3_take _ hw] at this
      exact this
  }
end Go.Proofs.YtggebombeflmhaaDoor
