import Derived.Test.YtnfddblpenninaaDoorLevB
namespace Go.Proofs.YtnfddblpenninaaDoor
open Go.RowKit

def LevelEnd (s : ByteArray) (e : Ending) : Prop :=
  (∃ n, parseL s = some n ∧ e = .returned (.tuple #[.int .i64 n, .bool true])) ∨ (parseL s = none ∧ e = .returned (.tuple #[.int .i64 0, .bool false]))

theorem tuple_of {a b : Int} {x y : Bool} (h : a = b) (h' : x = y) : Ending.returned (.tuple #[.int .i64 a, .bool x]) = .returned (.tuple #[.int .i64 b, .bool y]) := by rw [h, h']

set_option maxHeartbeats 400000 in
theorem level_any (s : ByteArray) (hs : ∀ b ∈ s.data.toList, b.toNat < 128) (hsz : s.size ≤ 1000) (w0 W : World) (h0 : Below w0.heap.size w0 W) (hE : Errs w0) :
    Calls Tryd.prog 21 #[.string s] W fun e w' => LevelEnd s e ∧ Below w0.heap.size w0 w' := by
  have hE' := hE.below h0
  go_enter Tryd.func21, Tryd.ntmps21
  go_wp2_with fail
  refine (parse_any s hs hsz W hE').mono ?_
  rintro e w' ⟨⟨n, hn, rfl⟩ | ⟨hn, T, p, rfl⟩, hb⟩
  · have hb := h0.trans (hb.mono h0.size)
    obtain ⟨b1, b2⟩ := parseL_bounds hn
    have HN := Lib.hid hn
    clear hn
    go_wp2
    go_ret2
    exact ⟨.inl ⟨n, HN.out, rfl⟩, hb⟩
  · have hb := h0.trans (hb.mono h0.size)
    have HN := Lib.hid hn
    clear hn
    go_wp2
    go_ret2
    exact ⟨.inr ⟨HN.out, rfl⟩, hb⟩

set_option maxHeartbeats 400000 in
theorem name_any (n : Int) (h1 : -1 ≤ n) (h2 : n ≤ 7) (w : World) :
    Calls Tryd.prog 22 #[.int .i64 n] w fun e w' => e = .returned (.string (lname n)) ∧ w = w' := by
  have : n = -1 ∨ n = 0 ∨ n = 1 ∨ n = 2 ∨ n = 3 ∨ n = 4 ∨ n = 5 ∨ n = 6 ∨ n = 7 := by omega
  rcases this with rfl | rfl | rfl | rfl | rfl | rfl | rfl | rfl | rfl
  all_goals
    go_enter Tryd.func22, Tryd.ntmps22
    go_wp2
    go_ret
    exact ⟨rfl, rfl⟩

set_option maxHeartbeats 400000 in
theorem awake_any (w0 W : World) (h0 : Below w0.heap.size w0 W) (hE : Errs w0) :
    Calls Tryd.prog 7 #[] W fun e w' => e = .returned (.bool true) ∧ Below w0.heap.size w0 w' := by
  go_enter Tryd.func7, Tryd.ntmps7
  go_wp2_with fail
  refine (level_any _ (by decide) (by decide) w0 _ h0 hE).mono ?_
  rintro e w' ⟨⟨n, hn, rfl⟩ | ⟨hn, rfl⟩, hb⟩
  · obtain rfl : n = 1 := by rw [info_parses] at hn; injection hn with hn; exact hn.symm
    clear hn
    go_wp2_with fail
    refine (name_any 1 (by decide) (by decide) _).mono ?_
    rintro e w' ⟨rfl, rfl⟩
    have hq : ((lname 1).toList == [105, 110, 102, 111]) = true := by decide +kernel
    go_wp2
    go_ret
    exact ⟨rfl, hb⟩
  · rw [info_parses] at hn
    cases hn
end Go.Proofs.YtnfddblpenninaaDoor
