/- How package time appends a number: the walk of appendInt. -/
import Derived.Test.YtggebombeflmhaaDoorLayA
namespace Go.Proofs.YtggebombeflmhaaDoor
open Go.RowKit

/-- What an append to the buffer ends with. -/
def Put (b : Nat) (l : List UInt8) (w : World) (e : Ending) (w' : World) : Prop := e = .returned (.slice (some ⟨b, 0, none⟩) l.length 64) ∧ Buf w' b l ∧ Keeps (· = b) w w'

def d2 (x : Nat) : List UInt8 := [dg (x / 10), dg x]
def d4 (x : Nat) : List UInt8 := [dg (x / 1000), dg (x / 100), dg (x / 10), dg x]

theorem utod_any (v : Int) (h0 : 0 ≤ v) (h1 : v ≤ 9) (w : World) : Calls Tryd.prog 50 #[.int .u64 v] w fun e w' => e = .returned (.int .u8 (48 + v)) ∧ w = w' := by
  go_enter Tryd.func50, Tryd.ntmps50
  go_wp2
  go_ret
  exact ⟨ret_int (by omega), rfl⟩

theorem new_cells (w : World) (vs : Array Value) (m : List UInt8) (h : vs = (m.map byteV).toArray) (j : Nat) (hj : j < m.length) :
    (w.alloc (.cells vs 5)).cell? ((⟨w.heap.size, 0, none⟩ : Addr).add j) = some (byteV m[j]) := by
  subst h
  rw [Addr.add_lit]
  simp [hj]

/-- What an append of the bytes m to the buffer leaves. -/
theorem put_of {b n : Nat} {l m : List UInt8} {w w1 : World} (hB : Buf w1 b l) (hn : l.length = n) (h64 : n + m.length ≤ 64) (hK : Keeps (· = b) w w1) :
    Put b (l ++ m) w (.returned (.slice (some ⟨b, 0, none⟩) (n + m.length) 64)) (w1.setCells b n (m.map byteV)) :=
  ⟨by simp [hn], hB.puts m n hn h64, hK.setCells _ n (.inl rfl)⟩

theorem d2_cells {x a c : Int} (h0 : 0 ≤ x) (h1 : x < 100) (ha : a = 48 + x / 10) (hc : c = 48 + x % 10) : (#[.int .u8 a, .int .u8 c] : Array Value) = ((d2 x.toNat).map byteV).toArray := by
  subst ha hc
  have e1 := dg_toNat (x.toNat / 10)
  have e2 := dg_toNat x.toNat
  simp only [d2, List.map_cons, List.map_nil, byteV]
  congr 3
  · congr 1; omega
  · congr 2; omega
theorem d4_cells {x a c d e : Int} (h0 : 0 ≤ x) (h1 : x < 10000) (ha : a = 48 + x / 1000) (hc : c = 48 + x / 100 % 10) (hd : d = 48 + x / 10 % 10) (he : e = 48 + x % 10) : (#[.int .u8 a, .int .u8 c, .int .u8 d, .int .u8 e] : Array Value) = ((d4 x.toNat).map byteV).toArray := by
  subst ha hc hd he
  have e1 := dg_toNat (x.toNat / 1000)
  have e2 := dg_toNat (x.toNat / 100)
  have e3 := dg_toNat (x.toNat / 10)
  have e4 := dg_toNat x.toNat
  have g1 : 48 + x / 1000 = ((dg (x.toNat / 1000)).toNat : Int) := by omega
  have g2 : 48 + x / 100 % 10 = ((dg (x.toNat / 100)).toNat : Int) := by omega
  have g3 : 48 + x / 10 % 10 = ((dg (x.toNat / 10)).toNat : Int) := by omega
  have g4 : 48 + x % 10 = ((dg x.toNat).toNat : Int) := by omega
  rw [g1, g2, g3, g4]
  rfl

set_option maxRecDepth 100000 in
set_option maxHeartbeats 1000000 in
theorem int_two (b n : Nat) (x : Int) (l : List UInt8) (h0 : 0 ≤ x) (h1 : x < 100) (hn : l.length = n) (h64 : n + 2 ≤ 64) (w : World) (hB : Buf w b l) :
    Calls Tryd.prog 30 #[.slice (some ⟨b, 0, none⟩) n 64, .int .i64 x, .int .i64 2] w fun e w' => Put b (l ++ d2 x.toNat) w e w' := by
  have HB := Lib.hid hB
  have HN := Lib.hid hn
  clear hB hn
  go_enter Tryd.func30, Tryd.ntmps30
  go_wp2_with (first
    | (go_at_call 50; refine (utod_any _ (by omega) (by omega) _).mono ?_; rintro e w' ⟨rfl, rfl⟩)
    | (at_builtin; refine Lib.wpList_append_run _ rfl _ _ 43 43 rfl _ _ rfl rfl _ _ (buf_append (m := d2 x.toNat) (HB.out.alloc _) rfl (by assumption) (new_cells _ _ _ (d2_cells h0 h1 rfl rfl))) ?_))
  go_ret
  exact put_of (m := d2 x.toNat) (HB.out.alloc _) HN.out h64 ((Keeps.refl _ w).alloc _)

set_option maxRecDepth 100000 in
set_option maxHeartbeats 1000000 in
theorem int_four (b n : Nat) (x : Int) (l : List UInt8) (h0 : 0 ≤ x) (h1 : x < 10000) (hn : l.length = n) (h64 : n + 4 ≤ 64) (w : World) (hB : Buf w b l) :
    Calls Tryd.prog 30 #[.slice (some ⟨b, 0, none⟩) n 64, .int .i64 x, .int .i64 4] w fun e w' => Put b (l ++ d4 x.toNat) w e w' := by
  have HB := Lib.hid hB
  have HN := Lib.hid hn
  clear hB hn
  go_enter Tryd.func30, Tryd.ntmps30
  go_wp2_with (first
    | (go_at_call 50; refine (utod_any _ (by omega) (by omega) _).mono ?_; rintro e w' ⟨rfl, rfl⟩)
    | (at_builtin; refine Lib.wpList_append_run _ rfl _ _ 43 43 rfl _ _ rfl rfl _ _ (buf_append (m := d4 x.toNat) (HB.out.alloc _) rfl (by assumption) (new_cells _ _ _ (d4_cells h0 h1 rfl rfl rfl rfl))) ?_))
  go_ret
  exact put_of (m := d4 x.toNat) (HB.out.alloc _) HN.out h64 ((Keeps.refl _ w).alloc _)
end Go.Proofs.YtggebombeflmhaaDoor
