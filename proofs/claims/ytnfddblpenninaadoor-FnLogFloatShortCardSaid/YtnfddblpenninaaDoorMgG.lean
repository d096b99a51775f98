/- Powers' logarithms; a number times a power of two and of ten, unrounded. -/
import Derived.Test.YtnfddblpenninaaDoorFixN
import GoSem.PinnedTables
namespace Go.Proofs.YtnfddblpenninaaDoor
open Go.RowKit

set_option maxRecDepth 100000 in
theorem log10_any (x : Int) (h1 : -5000 ≤ x) (h2 : x ≤ 5000) (w : World) : Calls Tryd.prog 62 #[.int .i64 x] w fun e w' => e = .returned (.int .i64 (x * 78913 / 262144)) ∧ w' = w := by
  go_enter Tryd.func62, Tryd.ntmps62
  go_wp2_with fail
  go_returns
  exact ⟨rfl, rfl⟩
set_option maxRecDepth 100000 in
theorem log2_any (x : Int) (h1 : -5000 ≤ x) (h2 : x ≤ 5000) (w : World) : Calls Tryd.prog 78 #[.int .i64 x] w fun e w' => e = .returned (.int .i64 (x * 108853 / 32768)) ∧ w' = w := by
  go_enter Tryd.func78, Tryd.ntmps78
  go_wp2_with fail
  go_returns
  exact ⟨rfl, rfl⟩
theorem and63 (s : Nat) (hs : s ≤ 63) : bits .and .i64 (s : Int) 63 = (s : Int) := by
  have h : ∀ k : Fin 64, bits .and .i64 ((k.val : Nat) : Int) 63 = ((k.val : Nat) : Int) := by decide
  exact h ⟨s, by omega⟩
/-- A scaler in memory. -/
def Scaler (w : World) (g hi lo : Nat) (s : Int) : Prop := w.cell? ⟨g, 0, none⟩ = some (.int .u64 (hi : Int)) ∧ w.cell? ⟨g, 1, none⟩ = some (.int .u64 (lo : Int)) ∧ w.cell? ⟨g, 2, none⟩ = some (.int .i64 s)
/-- What 'uscale' computes. -/
def uscaleN (x hi lo s : Nat) : Nat :=
  if x * hi / 18446744073709551616 % 2 ^ s ≠ 0 then x * hi / 18446744073709551616 / 2 ^ s ||| 1
  else if x * hi % 18446744073709551616 < x * lo / 18446744073709551616 then
    (x * hi / 18446744073709551616 - 1) / 2 ^ s ||| (if 1 < (x * hi % 18446744073709551616 + 18446744073709551616 - x * lo / 18446744073709551616) % 18446744073709551616 then 1 else 0)
  else x * hi / 18446744073709551616 / 2 ^ s ||| (if 1 < x * hi % 18446744073709551616 - x * lo / 18446744073709551616 then 1 else 0)

set_option maxRecDepth 100000 in
set_option maxHeartbeats 4000000 in
theorem uscale_walk (g x hi lo s : Nat) (hx : x < 18446744073709551616) (hhi : hi < 18446744073709551616) (hlo : lo < 18446744073709551616) (hs : s ≤ 63) (w : World) (hg : g < w.heap.size) (hS : Scaler w g hi lo s) (hp : 18446744073709551616 ≤ x * hi) :
    Calls Tryd.prog 79 #[.int .u64 (x : Int), .pointer (some ⟨g, 0, none⟩)] w fun e w' => e = .returned (.int .u64 (uscaleN x hi lo s : Int)) ∧ Below w.heap.size w w' := by
  obtain ⟨hc0, hc1, hc2⟩ := hS
  have c1 := Tryd.bits_Mul64 x hi hx hhi w
  have c2 := Tryd.bits_Mul64 x lo hx hlo w
  obtain ⟨h, hh⟩ : ∃ h, h = x * hi / 18446744073709551616 := ⟨_, rfl⟩
  obtain ⟨mid, hmid⟩ : ∃ h, h = x * hi % 18446744073709551616 := ⟨_, rfl⟩
  obtain ⟨h2, hh2⟩ : ∃ h, h = x * lo / 18446744073709551616 := ⟨_, rfl⟩
  obtain ⟨mid3, hmid3⟩ : ∃ h, h = x * lo % 18446744073709551616 := ⟨_, rfl⟩
  rw [← hh, ← hmid] at c1
  rw [← hh2, ← hmid3] at c2
  have hu : uscaleN x hi lo s = if h % 2 ^ s ≠ 0 then h / 2 ^ s ||| 1
    else if mid < h2 then (h - 1) / 2 ^ s ||| (if 1 < (mid + 18446744073709551616 - h2) % 18446744073709551616 then 1 else 0)
    else h / 2 ^ s ||| (if 1 < mid - h2 then 1 else 0) := by rw [hh, hmid, hh2]; rfl
  have C1 := Lib.hid c1
  have C2 := Lib.hid c2
  have HU := Lib.hid hu
  have b1 : h < 18446744073709551616 := by
    rw [hh]
    have : x * hi ≤ 18446744073709551615 * 18446744073709551615 := Nat.mul_le_mul (by omega) (by omega)
    omega
  have b0 : 1 ≤ h := by omega
  have b2 : mid < 18446744073709551616 := by omega
  have b3 : h2 < 18446744073709551616 := by
    rw [hh2]
    have : x * lo ≤ 18446744073709551615 * 18446744073709551615 := Nat.mul_le_mul (by omega) (by omega)
    omega
  clear c1 c2 hu hh hmid hh2 hmid3 hp
  have ha : bits .and .i64 (s : Int) 63 = (s : Int) := and63 s hs
  have hpw : ((2 : Int) ^ s) = ((2 ^ s : Nat) : Int) := by simp
  have hdv : ((h : Int) / 2 ^ s) = ((h / 2 ^ s : Nat) : Int) := by rw [hpw, Int.natCast_ediv]
  have hsh : (IntKind.u64.wrap ((h : Int) / 2 ^ s * 2 ^ s) != (h : Int)) = (h % 2 ^ s != 0) := by
    rw [hdv, hpw, ← Int.natCast_mul, IntKind.wrap_u64]
    have h1 := Nat.div_add_mod h (2 ^ s)
    have h3 : h / 2 ^ s * 2 ^ s ≤ h := Nat.div_mul_le_self _ _
    rw [Nat.mul_comm] at h1
    rw [Bool.eq_iff_iff]
    simp only [bne_iff_ne, ne_eq]
    omega
  obtain ⟨z, hz⟩ : ∃ z, z = (h % 2 ^ s != 0) := ⟨_, rfl⟩
  rw [← hz] at hsh
  have HSH := Lib.hid (And.intro hsh (And.intro hdv hz))
  clear hsh hdv hz hpw
  go_enter Tryd.func79, Tryd.ntmps79
  go_upto_region 3 with (first
    | (go_at_call 96; (with_reducible refine C1.out.mono ?_); rintro e w1 ⟨rfl, rfl⟩))
  go_cut [30] (fun q wz => q = .bool z ∧ wz = w1)
  case first =>
    go_wp2_with fail
    go_meet
    exact ⟨congrArg Value.bool HSH.out.1, rfl⟩
  case rest =>
    obtain ⟨rfl, rfl⟩ := hcut
    obtain ⟨k, hk⟩ : ∃ k : Nat, k = h / 2 ^ s := ⟨_, rfl⟩
    have hkl : k < 18446744073709551616 := by rw [hk]; exact Nat.lt_of_le_of_lt (Nat.div_le_self _ _) b1
    have hdk := HSH.out.2.1
    rw [← hk] at hdk
    have HK := Lib.hid hk
    clear hk
    cases z
    · have hm0 : h % 2 ^ s = 0 := by have := HSH.out.2.2; simpa using this.symm
      have HM0 := Lib.hid hm0
      clear hm0
      have hor0 : ∀ k : Nat, k < 18446744073709551616 → bits .or .u64 (k : Int) 0 = ((k ||| 0 : Nat) : Int) := fun k hk => bits_or_u64_nat k 0 hk (by omega)
      have hor1 : ∀ k : Nat, k < 18446744073709551616 → bits .or .u64 (k : Int) 1 = ((k ||| 1 : Nat) : Int) := fun k hk => bits_or_u64_nat k 1 hk (by omega)
      have hpw : ((2 : Int) ^ s) = ((2 ^ s : Nat) : Int) := by simp
      have HP := Lib.hid (And.intro hpw (And.intro hor0 hor1))
      clear hor0 hor1 hpw
      by_cases hlt : mid < h2
      · obtain ⟨y, hy⟩ : ∃ y, y = (mid + 18446744073709551616 - h2) % 18446744073709551616 := ⟨_, rfl⟩
        obtain ⟨k2, hk2⟩ : ∃ k2, k2 = (h - 1) / 2 ^ s := ⟨_, rfl⟩
        have hkl2 : k2 < 18446744073709551616 := by rw [hk2]; exact Nat.lt_of_le_of_lt (Nat.div_le_self _ _) (by omega)
        have hyl : y < 18446744073709551616 := by omega
        have hw : IntKind.u64.wrap ((mid : Int) - (h2 : Int)) = (y : Int) := by rw [IntKind.wrap_u64]; omega
        have hdk2 : ((h : Int) - 1) / 2 ^ s = (k2 : Int) := by rw [hk2, show (h : Int) - 1 = ((h - 1 : Nat) : Int) by omega, HP.out.1, Int.natCast_ediv]
        have ho0 := HP.out.2.1 k2 hkl2
        have ho1 := HP.out.2.2 k2 hkl2
        have HY := Lib.hid (And.intro hy hk2)
        clear hy hk2 hdk
        by_cases hy1 : 1 < y
        · have hq : decide ((1 : Int) < (y : Int)) = true := by simp; omega
          have HY1 := Lib.hid hy1
          clear hy1
          go_upto_region 7 with (first
            | (go_at_call 96; (with_reducible refine C2.out.mono ?_); rintro e w2 ⟨rfl, rfl⟩)
            | (go_at_call 97; (with_reducible refine (b3_any _ _).mono ?_); rintro e w2 ⟨rfl, rfl⟩))
          go_quiet ((go_at_call 97; exact Calls.quiet_of_same (b3_any _ _)))
          go_wp2_with fail
          go_returns
          exact ⟨congrArg (fun n : Nat => Ending.returned (.int .u64 (n : Int))) (by rw [HU.out, if_neg (by rw [HM0.out]; simp), if_pos hlt, ← HY.out.1, if_pos HY1.out, HY.out.2]), below_drewN (Below.refl _ _) _⟩
        · have hq : decide ((1 : Int) < (y : Int)) = false := by simp; omega
          have HY1 := Lib.hid hy1
          clear hy1
          go_upto_region 7 with (first
            | (go_at_call 96; (with_reducible refine C2.out.mono ?_); rintro e w2 ⟨rfl, rfl⟩)
            | (go_at_call 97; (with_reducible refine (b3_any _ _).mono ?_); rintro e w2 ⟨rfl, rfl⟩))
          go_quiet ((go_at_call 97; exact Calls.quiet_of_same (b3_any _ _)))
          go_wp2_with fail
          go_returns
          exact ⟨congrArg (fun n : Nat => Ending.returned (.int .u64 (n : Int))) (by rw [HU.out, if_neg (by rw [HM0.out]; simp), if_pos hlt, ← HY.out.1, if_neg HY1.out, HY.out.2, Nat.or_zero]), below_drewN (Below.refl _ _) _⟩
      · obtain ⟨y, hy⟩ : ∃ y, y = mid - h2 := ⟨_, rfl⟩
        have hyl : y < 18446744073709551616 := by omega
        have hw : IntKind.u64.wrap ((mid : Int) - (h2 : Int)) = (y : Int) := by rw [IntKind.wrap_u64]; omega
        have hw2 : (mid : Int) - (h2 : Int) = (y : Int) := by omega
        have hw3 : IntKind.u64.wrap (y : Int) = (y : Int) := by rw [IntKind.wrap_u64]; omega
        have ho0 := HP.out.2.1 k hkl
        have ho1 := HP.out.2.2 k hkl
        have HY := Lib.hid hy
        clear hy
        by_cases hy1 : 1 < y
        · have hq : decide ((1 : Int) < (y : Int)) = true := by simp; omega
          have HY1 := Lib.hid hy1
          clear hy1
          go_upto_region 7 with (first
            | (go_at_call 96; (with_reducible refine C2.out.mono ?_); rintro e w2 ⟨rfl, rfl⟩)
            | (go_at_call 97; (with_reducible refine (b3_any _ _).mono ?_); rintro e w2 ⟨rfl, rfl⟩))
          go_quiet ((go_at_call 97; exact Calls.quiet_of_same (b3_any _ _)))
          go_wp2_with fail
          go_returns
          exact ⟨congrArg (fun n : Nat => Ending.returned (.int .u64 (n : Int))) (by rw [HU.out, if_neg (by rw [HM0.out]; simp), if_neg hlt, ← HY.out, if_pos HY1.out, HK.out]), below_drewN (Below.refl _ _) _⟩
        · have hq : decide ((1 : Int) < (y : Int)) = false := by simp; omega
          have HY1 := Lib.hid hy1
          clear hy1
          go_upto_region 7 with (first
            | (go_at_call 96; (with_reducible refine C2.out.mono ?_); rintro e w2 ⟨rfl, rfl⟩)
            | (go_at_call 97; (with_reducible refine (b3_any _ _).mono ?_); rintro e w2 ⟨rfl, rfl⟩))
          go_quiet ((go_at_call 97; exact Calls.quiet_of_same (b3_any _ _)))
          go_wp2_with fail
          go_returns
          exact ⟨congrArg (fun n : Nat => Ending.returned (.int .u64 (n : Int))) (by rw [HU.out, if_neg (by rw [HM0.out]; simp), if_neg hlt, ← HY.out, if_neg HY1.out, HK.out, Nat.or_zero]), below_drewN (Below.refl _ _) _⟩
    · have hm0 : h % 2 ^ s ≠ 0 := by have := HSH.out.2.2; simpa using this.symm
      have ho : bits .or .u64 (k : Int) 1 = ((k ||| 1 : Nat) : Int) := bits_or_u64_nat k 1 hkl (by omega)
      have HM0 := Lib.hid hm0
      clear hm0
      go_wp2_with fail
      go_returns
      exact ⟨congrArg (fun n : Nat => Ending.returned (.int .u64 (n : Int))) (by rw [HU.out, if_pos HM0.out, HK.out]), Below.refl _ _⟩
end Go.Proofs.YtnfddblpenninaaDoor
/- The tables of powers of ten; a scaler is filled. -/
namespace Go.Proofs.YtnfddblpenninaaDoor
open Go.RowKit

def rowP (i : Nat) : Nat × Nat := Go.Pinned.pow10Rows.getD i (0, 0)
def rowC (i : Nat) : Nat × List UInt8 := Go.Pinned.cheatRows.getD i (0, [])
/-- The variables of package strconv as its text lays them. -/
structure Glob (w : World) : Prop where
  big : 8 < w.heap.size
  opt : w.cell? ⟨1, 0, none⟩ = some (.bool true)
  tens : Lib.TabIs Tryd.prog w "internal/strconv.uint64pow10" .u64 Lib.pow10Tab
  ten : ∀ i, i < 20 → w.cell? ⟨4, i, none⟩ = some (.int .u64 ((10 ^ i : Nat) : Int))
  tab : ∀ i, i < 696 → w.cell? ⟨5, i * 2, none⟩ = some (.int .u64 ((rowP i).1 : Int)) ∧ w.cell? ⟨5, i * 2 + 1, none⟩ = some (.int .u64 ((rowP i).2 : Int))
  cheat : ∃ b off c, w.cell? ⟨6, 0, none⟩ = some (.slice (some ⟨b, off, none⟩) 61 c) ∧ b < w.heap.size ∧ 61 ≤ c ∧
    ∀ i, i < 61 → w.cell? ⟨b, off + 2 * i, none⟩ = some (.int .i64 ((rowC i).1 : Int)) ∧ w.cell? ⟨b, off + (2 * i + 1), none⟩ = some (.string ⟨(rowC i).2.toArray⟩)
theorem tab_below {w w' : World} {nm : String} {k : IntKind} {zs : List Int} {g : Nat} (h : Lib.TabIs Tryd.prog w nm k zs) (hg : Tryd.prog.globalNamed nm = some g) (hlt : g < w.heap.size) (hb : Below w.heap.size w w') : Lib.TabIs Tryd.prog w' nm k zs := by
  have e : w'.var? Tryd.prog nm = w.var? Tryd.prog nm := by
    unfold World.var?
    rw [hg]
    simp only [Option.bind_some]
    rw [hb.block g hlt]
  exact e.trans h
theorem gTens : Tryd.prog.globalNamed "internal/strconv.uint64pow10" = some 4 := by kernel_rfl
theorem Glob.below {w w' : World} (h : Glob w) (hb : Below w.heap.size w w') : Glob w' := by
  have hB := h.big
  have hc : ∀ (g o : Nat), g < w.heap.size → w'.cell? ⟨g, o, none⟩ = w.cell? ⟨g, o, none⟩ := fun g o hg => hb.cell (p := ⟨g, o, none⟩) hg
  refine ⟨Nat.lt_of_lt_of_le hB hb.size, (hc 1 0 (by omega)).trans h.opt, tab_below h.tens gTens (by omega) hb, fun i hi => (hc 4 i (by omega)).trans (h.ten i hi), fun i hi => ⟨(hc 5 _ (by omega)).trans (h.tab i hi).1, (hc 5 _ (by omega)).trans (h.tab i hi).2⟩, ?_⟩
  obtain ⟨b, off, c, h1, h2, h3, h4⟩ := h.cheat
  exact ⟨b, off, c, (hc 6 0 (by omega)).trans h1, Nat.lt_of_lt_of_le h2 hb.size, h3, fun i hi => ⟨(hc b _ h2).trans (h4 i hi).1, (hc b _ h2).trans (h4 i hi).2⟩⟩

set_option maxRecDepth 100000 in
set_option maxHeartbeats 4000000 in
theorem prescale_walk (g i : Nat) (p e lp : Int) (cs : Array Value) (w : World) (hG : Glob w) (hg : Whole w g 119 cs) (hcs : cs.size = 3) (_hg8 : 8 < g) (hp : p + 348 = (i : Int)) (hi : i < 696) (he1 : -5000 ≤ e) (he2 : e ≤ 5000) (hl1 : -5000 ≤ lp) (hl2 : lp ≤ 5000) :
    Calls Tryd.prog 77 #[.pointer (some ⟨g, 0, none⟩), .int .i64 e, .int .i64 p, .int .i64 lp] w fun e' w' => e' = .returned (.tuple #[]) ∧ Scaler w' g (rowP i).1 (rowP i).2 (-(e + lp + 3)) ∧ Keeps (fun k => k = g) w w' := by
  obtain ⟨h1, h2⟩ := hG.tab i hi
  have hc0 : w.cell? ⟨g, 0, none⟩ = some cs[0] := by rw [hg.cell]; simp [hcs]
  have hc1 : w.cell? ⟨g, 1, none⟩ = some cs[1] := by rw [hg.cell]; simp [hcs]
  have hc2 : w.cell? ⟨g, 2, none⟩ = some cs[2] := by rw [hg.cell]; simp [hcs]
  have hf := hg.frozen
  go_enter Tryd.func77, Tryd.ntmps77
  go_wp2_with fail
  go_returns
  have hw := (((hg.set 0 (.int .u64 ((rowP i).1 : Int))).set 1 (.int .u64 ((rowP i).2 : Int))).set 2 (.int .i64 (-(e + lp + 3))))
  refine ⟨rfl, ⟨?_, ?_, ?_⟩, (((Keeps.refl (fun k => k = g) w).set (p := ⟨g, 0, none⟩) (.inl rfl) _).set (p := ⟨g, 1, none⟩) (.inl rfl) _).set (p := ⟨g, 2, none⟩) (.inl rfl) _⟩
  all_goals
    rw [hw.cell]
    simp [hcs]

theorem row_small : ∀ p : Fin 14, rowP (348 + p.val) = (10 ^ p.val * 2 ^ (63 - p.val * 108853 / 32768), 0) := by decide +kernel
/-- An unrounded number rounded. -/
def roundU (u : Nat) : Nat := (u + 1 + u / 4 % 2) / 4
set_option maxRecDepth 100000 in
theorem round_big (u : Nat) (w : World) (_h : u < 9223372036854775808) : Calls Tryd.prog 83 #[.int .u64 (u : Int)] w fun e w' => e = .returned (.int .u64 (((u + 1 + u / 4 % 2) / 4 : Nat) : Int)) ∧ w = w' := by
  have hb : bits .and .u64 ((u : Int) / 4) 1 = ((u / 4 % 2 : Nat) : Int) := by
    have := bits_and_u64_nat (u / 4) 1 (by omega) (by omega)
    rw [Nat.and_one_is_mod] at this
    exact this
  go_enter Tryd.func83, Tryd.ntmps83
  go_wp2_with fail
  go_returns
  exact ⟨congrArg (fun n => Ending.returned (.int .u64 n)) (by omega), rfl⟩
theorem divU_lt (u : Nat) (h : u < 9223372036854775808) : divU u 10 < 9223372036854775808 := by
  unfold divU
  have h1 : u / 10 < 2 ^ 63 := by omega
  have h2 : u % 2 < 2 ^ 63 := by omega
  have h3 : (if u % 10 ≠ 0 then 1 else 0) < 2 ^ 63 := by split <;> omega
  exact Nat.or_lt_two_pow (Nat.or_lt_two_pow h1 h2) h3

/-- The last digit is dropped where there is one too many. -/
def fixU (u p prec : Nat) : Nat := if p = prec then u else divU u 10
set_option maxRecDepth 100000 in
set_option maxHeartbeats 4000000 in
theorem width_walk (m : Nat) (e : Int) (n prec p s : Nat) (w : World) (hG : Glob w) (hm : m < 18446744073709551616) (hm1 : 9223372036854775808 ≤ m) (hn1 : 1 ≤ n) (hn2 : n ≤ 18) (hprec : prec ≤ 12) (he1 : -2000 ≤ e) (he2 : e ≤ 2000)
    (hp : (n : Int) - 1 - (e + 63) * 78913 / 262144 = (p : Int)) (hpp : p = prec ∨ p = prec + 1) (hs : -(e + (p : Int) * 108853 / 32768 + 3) = (s : Int)) (hs1 : s ≤ 63)
    (hu : uscaleN m (rowP (348 + p)).1 (rowP (348 + p)).2 s < 9223372036854775808) (hpu : p = prec → uscaleN m (rowP (348 + p)).1 (rowP (348 + p)).2 s < 4 * 10 ^ n - 2) :
    Calls Tryd.prog 63 #[.int .u64 (m : Int), .int .i64 e, .int .i64 (n : Int), .int .i64 (prec : Int), .int .u8 102] w fun e' w' =>
      e' = .returned (.tuple #[.int .u64 (roundU (fixU (uscaleN m (rowP (348 + p)).1 (rowP (348 + p)).2 s) p prec) : Int), .int .i64 (-(prec : Int))]) ∧ Below w.heap.size w w' := by
  have hG8 := hG.big
  have hrow := row_small ⟨p, by omega⟩
  have hhi : (rowP (348 + p)).1 < 18446744073709551616 ∧ 9223372036854775808 ≤ (rowP (348 + p)).1 := by
    have h : ∀ p : Fin 14, (rowP (348 + p.val)).1 < 18446744073709551616 ∧ 9223372036854775808 ≤ (rowP (348 + p.val)).1 := by decide +kernel
    exact h ⟨p, by omega⟩
  have hlo : (rowP (348 + p)).2 < 18446744073709551616 := by rw [hrow]; exact (by decide : (0 : Nat) < 18446744073709551616)
  have hW := Whole.new w 119 #[.int .u64 0, .int .u64 0, .int .i64 0]
  have hB0 : Below w.heap.size w (w.alloc (.cells #[.int .u64 0, .int .u64 0, .int .i64 0] 119)) := (Below.refl w.heap.size w).alloc (Nat.le_refl _) _
  have C77 := Lib.hid (prescale_walk w.heap.size (348 + p) p e ((p : Int) * 108853 / 32768) _ _ (hG.below hB0) hW rfl hG8 (by omega) (by omega) (by omega) (by omega) (by omega) (by omega))
  rw [hs] at C77
  obtain ⟨u, hu0⟩ : ∃ u, u = uscaleN m (rowP (348 + p)).1 (rowP (348 + p)).2 s := ⟨_, rfl⟩
  rw [← hu0] at hu hpu ⊢
  have hprod : 18446744073709551616 ≤ m * (rowP (348 + p)).1 := Nat.le_trans (by decide : 18446744073709551616 ≤ 9223372036854775808 * 9223372036854775808) (Nat.mul_le_mul hm1 hhi.2)
  have C79 := Lib.hid (fun w1 (hg : w.heap.size < w1.heap.size) (hS : Scaler w1 w.heap.size (rowP (348 + p)).1 (rowP (348 + p)).2 s) => uscale_walk w.heap.size m _ _ s hm hhi.1 hlo hs1 w1 hg hS hprod)
  rw [← hu0] at C79
  obtain ⟨T, hT⟩ : ∃ T, T = 10 ^ n := ⟨_, rfl⟩
  have hT1 : T < 4611686018427387904 := by
    rw [hT]
    exact Nat.lt_of_le_of_lt (Nat.pow_le_pow_right (by decide) hn2) (by decide)
  have hT0 : 0 < T := by rw [hT]; exact Nat.pow_pos (by decide)
  have C85 := Lib.hid (fun w => unmin_any T w hT1 hT0)
  have hten : ∀ w1, Below w.heap.size w w1 → w1.cell? ⟨4, n, none⟩ = some (.int .u64 (T : Int)) := fun w1 hb => by
    rw [hT]
    exact (hG.below hb).ten n (by omega)
  rw [← hT] at hpu
  obtain ⟨X, hX⟩ : ∃ X, X = 4 * T - 2 := ⟨_, rfl⟩
  rw [← hX] at hpu C85
  have HT := Lib.hid hten
  have HB0 := Lib.hid hB0
  have hdl := divU_lt u hu
  have C86 := Lib.hid (fun w => div_any u w (Nat.lt_trans hu (by decide)))
  obtain ⟨v, hv⟩ : ∃ v, v = divU u 10 := ⟨_, rfl⟩
  rw [← hv] at hdl C86
  have C83a := Lib.hid (fun w => round_big u w hu)
  have C83b := Lib.hid (fun w => round_big v w hdl)
  have HV := Lib.hid hv
  clear hrow hhi hlo hW hB0 hu0 hT hX hten hv hG hprod
  rcases hpp with rfl | rfl
  · have hpu2 := hpu rfl
    have hq : decide (X ≤ u) = false := by simp; omega
    clear hpu hpu2
    go_enter Tryd.func63, Tryd.ntmps63
    go_wp2_with (first
      | (go_at_call 62; refine (log10_any _ (by omega) (by omega) _).mono ?_; rintro e1 w1 ⟨rfl, rfl⟩)
      | (go_at_call 78; refine (log2_any _ (by omega) (by omega) _).mono ?_; rintro e1 w1 ⟨rfl, rfl⟩)
      | (go_at_call 77; refine C77.out.mono ?_; rintro e1 w2 ⟨rfl, hS, hK⟩; have HK := Lib.hid (And.intro hS (And.intro hK (HB0.out.trans (hK.below (by simp) (by rintro k rfl; exact Nat.le_refl _))))); clear hS hK)
      | (go_at_call 79; refine (C79.out _ (by have := HK.out.2.1.size; simp at this; omega) HK.out.1).mono ?_; rintro e1 w3 ⟨rfl, hB3⟩; have HB3 := Lib.hid (below_next HK.out.2.2 hB3); clear hB3; have hc := HT.out _ HB3.out)
      | (go_at_call 85; refine (C85.out _).mono ?_; rintro e1 w4 ⟨rfl, rfl⟩)
      | (go_at_call 86; refine (C86.out _).mono ?_; rintro e1 w5 ⟨rfl, hB5⟩; have HB5 := Lib.hid (below_next HB3.out hB5); clear hB5))
    refine wp_loop_rounds 1 ?_
    rw [rounds_succ]
    go_wp2_with (first | (go_at_call 83; refine (C83a.out _).mono ?_; rintro e1 w6 ⟨rfl, rfl⟩))
    go_returns
    exact ⟨by rw [fixU, if_pos rfl]; rfl, HB3.out⟩
  · clear hpu
    have hcast : ((prec + 1 : Nat) : Int) = (prec : Int) + 1 := by omega
    rw [hcast] at hp hs C77
    have HV2 := Lib.hid (show fixU u (prec + 1) prec = v by rw [fixU, if_neg (by omega), HV.out])
    clear hcast
    by_cases hXu : X ≤ u
    · have hq : decide (X ≤ u) = true := by simp; omega
      have HX := Lib.hid hXu
      clear hXu
      go_enter Tryd.func63, Tryd.ntmps63
      go_wp2_with (first
        | (go_at_call 62; refine (log10_any _ (by omega) (by omega) _).mono ?_; rintro e1 w1 ⟨rfl, rfl⟩)
        | (go_at_call 78; refine (log2_any _ (by omega) (by omega) _).mono ?_; rintro e1 w1 ⟨rfl, rfl⟩)
        | (go_at_call 77; refine C77.out.mono ?_; rintro e1 w2 ⟨rfl, hS, hK⟩; have HK := Lib.hid (And.intro hS (And.intro hK (HB0.out.trans (hK.below (by simp) (by rintro k rfl; exact Nat.le_refl _))))); clear hS hK)
        | (go_at_call 79; refine (C79.out _ (by have := HK.out.2.1.size; simp at this; omega) HK.out.1).mono ?_; rintro e1 w3 ⟨rfl, hB3⟩; have HB3 := Lib.hid (below_next HK.out.2.2 hB3); clear hB3; have hc := HT.out _ HB3.out)
        | (go_at_call 85; refine (C85.out _).mono ?_; rintro e1 w4 ⟨rfl, rfl⟩)
        | (go_at_call 86; refine (C86.out _).mono ?_; rintro e1 w5 ⟨rfl, hB5⟩; have HB5 := Lib.hid (below_next HB3.out hB5); clear hB5))
      refine wp_loop_rounds 1 ?_
      rw [rounds_succ]
      go_wp2_with (first | (go_at_call 83; refine (C83b.out _).mono ?_; rintro e1 w6 ⟨rfl, rfl⟩))
      go_returns
      exact ⟨by rw [HV2.out]; rfl, HB5.out⟩
    · have hq : decide (X ≤ u) = false := by simp; omega
      have HX := Lib.hid hXu
      clear hXu
      go_enter Tryd.func63, Tryd.ntmps63
      go_wp2_with (first
        | (go_at_call 62; refine (log10_any _ (by omega) (by omega) _).mono ?_; rintro e1 w1 ⟨rfl, rfl⟩)
        | (go_at_call 78; refine (log2_any _ (by omega) (by omega) _).mono ?_; rintro e1 w1 ⟨rfl, rfl⟩)
        | (go_at_call 77; refine C77.out.mono ?_; rintro e1 w2 ⟨rfl, hS, hK⟩; have HK := Lib.hid (And.intro hS (And.intro hK (HB0.out.trans (hK.below (by simp) (by rintro k rfl; exact Nat.le_refl _))))); clear hS hK)
        | (go_at_call 79; refine (C79.out _ (by have := HK.out.2.1.size; simp at this; omega) HK.out.1).mono ?_; rintro e1 w3 ⟨rfl, hB3⟩; have HB3 := Lib.hid (below_next HK.out.2.2 hB3); clear hB3; have hc := HT.out _ HB3.out)
        | (go_at_call 85; refine (C85.out _).mono ?_; rintro e1 w4 ⟨rfl, rfl⟩)
        | (go_at_call 86; refine (C86.out _).mono ?_; rintro e1 w5 ⟨rfl, hB5⟩; have HB5 := Lib.hid (below_next HB3.out hB5); clear hB5))
      refine wp_loop_rounds 2 ?_
      rw [rounds_succ]
      go_wp2_with (first | (go_at_call 86; refine (C86.out _).mono ?_; rintro e1 w5 ⟨rfl, hB5⟩; have HB5 := Lib.hid (below_next HB3.out hB5); clear hB5))
      rw [rounds_succ]
      go_wp2_with (first | (go_at_call 83; refine (C83b.out _).mono ?_; rintro e1 w6 ⟨rfl, rfl⟩))
      go_returns
      exact ⟨by rw [HV2.out]; rfl, HB5.out⟩
#print axioms width_walk
end Go.Proofs.YtnfddblpenninaaDoor
