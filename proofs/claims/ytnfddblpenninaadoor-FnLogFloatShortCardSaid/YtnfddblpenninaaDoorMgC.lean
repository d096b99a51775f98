import Derived.Test.YtnfddblpenninaaDoorMgB
import Derived.Test.YtnfddblpenninaaDoorShelf
import Derived.Lib.SmallJoins
import Derived.WalkSmall
namespace Go.Proofs.YtnfddblpenninaaDoor
open Go.RowKit

theorem ef_any (s t : ByteArray) (hs : ∀ b ∈ s.data.toList, b.toNat < 128) (ht : ∀ b ∈ t.data.toList, b.toNat < 128) (hsz : s.size ≤ 1000) (htz : t.size ≤ 1000) (w0 W : World) (h0 : Below w0.heap.size w0 W) :
    Calls Tryd.prog 36 #[.string s, .string t] W fun e w' => e = .returned (.bool (foldEq s t)) ∧ Below w0.heap.size w0 w' := by
  have go : ∀ {b : Bool}, (Calls Tryd.prog 36 #[.string s, .string t] W fun e w' => e = .returned (.bool b) ∧ Below W.heap.size W w') →
      Calls Tryd.prog 36 #[.string s, .string t] W fun e w' => e = .returned (.bool b) ∧ Below w0.heap.size w0 w' :=
    fun h => h.mono fun _ _ ⟨he, hb⟩ => ⟨he, h0.trans (hb.mono h0.size)⟩
  cases hf : foldEq s t with
  | true =>
    obtain ⟨hl, hall⟩ := foldEq_true hf
    exact go (ef_yes s t s.size hs ht rfl hl.symm hsz hall W)
  | false =>
    by_cases hl : s.size = t.size
    · rcases foldEq_false hf with h | ⟨k, h1, h2, h3⟩
      · exact absurd hl h
      · exact go (ef_no s t s.size k hs ht rfl hl.symm hsz h1 h3 W)
    · exact go (ef_len s t hs ht hsz htz hl W)

/-- The two errors of package strconv are there. -/
def Errs (W : World) : Prop := (∃ tp p, W.var? Tryd.prog "strconv.ErrSyntax" = some #[.iface tp p]) ∧ (∃ tp p, W.var? Tryd.prog "strconv.ErrRange" = some #[.iface tp p])
theorem gSyn : ∃ g, Tryd.prog.globalNamed "strconv.ErrSyntax" = some g := Option.isSome_iff_exists.1 (by kernel_rfl)
theorem gRng : ∃ g, Tryd.prog.globalNamed "strconv.ErrRange" = some g := Option.isSome_iff_exists.1 (by kernel_rfl)
theorem var_lt {W : World} {n : String} {g : Nat} {cs : Array Value} (hg : Tryd.prog.globalNamed n = some g) (h : W.var? Tryd.prog n = some cs) : g < W.heap.size := by
  unfold World.var? at h
  simp only [hg, Option.bind_some] at h
  rcases Nat.lt_or_ge g W.heap.size with hlt | hge
  · exact hlt
  · rw [Array.getElem?_eq_none hge] at h
    cases h
theorem Errs.below {w0 W : World} (hE : Errs w0) (h : Below w0.heap.size w0 W) : Errs W := by
  obtain ⟨⟨t1, p1, h1⟩, ⟨t2, p2, h2⟩⟩ := hE
  obtain ⟨g1, e1⟩ := gSyn
  obtain ⟨g2, e2⟩ := gRng
  exact ⟨⟨t1, p1, var?_below h e1 (var_lt e1 h1) h1⟩, ⟨t2, p2, var?_below h e2 (var_lt e2 h2) h2⟩⟩

theorem atoi_ok (s : ByteArray) (hsz : s.size ≤ 1000) (v : Int) (hv : Lib.atoiAll s.data.toList = .ok v) (w0 W : World) (h0 : Below w0.heap.size w0 W) :
    Calls Tryd.prog 37 #[.string s] W fun e w' => e = .returned (.tuple #[.int .i64 v, .nilIface]) ∧ Below w0.heap.size w0 w' := by
  refine (Tryd.strconv_Atoi_ok s (by omega) v hv W).mono fun e w' ⟨he, hw⟩ => ⟨he, ?_⟩
  rcases hw with rfl | ⟨t, rfl⟩
  · exact h0
  · exact h0.trans (Joins.below_bytesWorld _ _ _ _ h0.size)

/-- It is no number, or too great a one. -/
def NoNum (e : Ending) : Prop := ∃ (v : Int) (N : Nat), e = .returned (.tuple #[.int .i64 v, .iface 85 (.pointer (some ⟨N, 0, none⟩))])

theorem atoi_no (s : ByteArray) (hsz : s.size ≤ 1000) (hv : ∀ v, Lib.atoiAll s.data.toList ≠ .ok v) (w0 W : World) (h0 : Below w0.heap.size w0 W) (hE : Errs w0) :
    Calls Tryd.prog 37 #[.string s] W fun e w' => NoNum e ∧ Below w0.heap.size w0 w' := by
  obtain ⟨⟨t1, p1, h1⟩, ⟨t2, p2, h2⟩⟩ := hE.below h0
  cases ha : Lib.atoiAll s.data.toList
  · rename_i v
    exact absurd ha (hv v)
  · exact (Any.strconv_Atoi_syntax_var Tryd.laysC172 s (by omega) ha t1 p1 W h1).mono fun e w' ⟨N, he, _, _, hb⟩ => ⟨⟨_, N, he⟩, h0.trans (hb.mono h0.size)⟩
  · exact (Tryd.strconv_Atoi_range_var s (by omega) ha t2 p2 W h2).mono fun e w' ⟨N, he, _, _, hb⟩ => ⟨⟨_, N, he⟩, h0.trans (hb.mono h0.size)⟩

def ParseEnd (s : ByteArray) (e : Ending) : Prop :=
  (∃ n, parseL s = some n ∧ e = .returned (.tuple #[.int .i8 n, .nilIface])) ∨ (parseL s = none ∧ ∃ T p, e = .returned (.tuple #[.int .i8 6, .iface T (.pointer p)]))

theorem end_of {s : ByteArray} {e : Ending} (n : Int) (h : parseL s = some n) (he : e = .returned (.tuple #[.int .i8 n, .nilIface])) : ParseEnd s e := .inl ⟨n, h, he⟩
theorem end_no {s : ByteArray} {e : Ending} (h : parseL s = none) (T : TypeId) (p : Option Addr) (he : e = .returned (.tuple #[.int .i8 6, .iface T (.pointer p)])) : ParseEnd s e := .inr ⟨h, T, p, he⟩

set_option maxHeartbeats 1000000 in
theorem parse_num (s : ByteArray) (hs : ∀ b ∈ s.data.toList, b.toNat < 128) (hsz : s.size ≤ 1000) (w : World) (v : Int) (hv : Lib.atoiAll s.data.toList = .ok v) (h1 : v ≤ 127) (h2 : -128 ≤ v) (hp : parseN s = some v) :
    Calls Tryd.prog 31 #[.string s] w fun e w' => ParseEnd s e ∧ Below w.heap.size w w' := by
  have HV := Lib.hid hv
  clear hv
  have hB := Below.refl w.heap.size w
  have HP := Lib.hid hp
  clear hp
  go_enter Tryd.func31, Tryd.ntmps31
  go_wp2_with (first
    | (go_at_call 36; refine (ef_any s _ hs ?_ hsz ?_ w _ (by assumption)).mono ?_; (first | decide | (intro b hb; simp at hb)); decide; rintro e w' ⟨rfl, hb⟩)
    | (go_at_call 37; refine (atoi_ok s hsz v HV.out w _ (by assumption)).mono ?_; rintro e w' ⟨rfl, hb⟩)
    | (go_at_call 32; go_in)
    | (go_at_call 38; go_in))
  all_goals go_ret2
  all_goals have HQ := HP.out
  all_goals refine ⟨?_, (by first | exact hb | exact hb.alloc hb.size _)⟩
  all_goals first
    | (refine end_of _ ?_ rfl; simp [parseL, *]; done)
    | (refine end_no ?_ _ _ rfl; simp [parseL, *]; done)

set_option maxHeartbeats 1000000 in
theorem parse_high (s : ByteArray) (hs : ∀ b ∈ s.data.toList, b.toNat < 128) (hsz : s.size ≤ 1000) (w : World) (v : Int) (hv : Lib.atoiAll s.data.toList = .ok v) (h1 : 127 < v) (hp : parseN s = none) :
    Calls Tryd.prog 31 #[.string s] w fun e w' => ParseEnd s e ∧ Below w.heap.size w w' := by
  have HV := Lib.hid hv
  clear hv
  have hB := Below.refl w.heap.size w
  have HP := Lib.hid hp
  clear hp
  go_enter Tryd.func31, Tryd.ntmps31
  go_wp2_with (first
    | (go_at_call 36; refine (ef_any s _ hs ?_ hsz ?_ w _ (by assumption)).mono ?_; (first | decide | (intro b hb; simp at hb)); decide; rintro e w' ⟨rfl, hb⟩)
    | (go_at_call 37; refine (atoi_ok s hsz v HV.out w _ (by assumption)).mono ?_; rintro e w' ⟨rfl, hb⟩)
    | (go_at_call 32; go_in)
    | (go_at_call 38; go_in))
  all_goals go_ret2
  all_goals have HQ := HP.out
  all_goals refine ⟨?_, (by first | exact hb | exact hb.alloc hb.size _)⟩
  all_goals first
    | (refine end_of _ ?_ rfl; simp [parseL, *]; done)
    | (refine end_no ?_ _ _ rfl; simp [parseL, *]; done)

set_option maxHeartbeats 1000000 in
theorem parse_deep (s : ByteArray) (hs : ∀ b ∈ s.data.toList, b.toNat < 128) (hsz : s.size ≤ 1000) (w : World) (v : Int) (hv : Lib.atoiAll s.data.toList = .ok v) (h1 : v < -128) (hp : parseN s = none) :
    Calls Tryd.prog 31 #[.string s] w fun e w' => ParseEnd s e ∧ Below w.heap.size w w' := by
  have HV := Lib.hid hv
  clear hv
  have hB := Below.refl w.heap.size w
  have HP := Lib.hid hp
  clear hp
  go_enter Tryd.func31, Tryd.ntmps31
  go_wp2_with (first
    | (go_at_call 36; refine (ef_any s _ hs ?_ hsz ?_ w _ (by assumption)).mono ?_; (first | decide | (intro b hb; simp at hb)); decide; rintro e w' ⟨rfl, hb⟩)
    | (go_at_call 37; refine (atoi_ok s hsz v HV.out w _ (by assumption)).mono ?_; rintro e w' ⟨rfl, hb⟩)
    | (go_at_call 32; go_in)
    | (go_at_call 38; go_in))
  all_goals go_ret2
  all_goals have HQ := HP.out
  all_goals refine ⟨?_, (by first | exact hb | exact hb.alloc hb.size _)⟩
  all_goals first
    | (refine end_of _ ?_ rfl; simp [parseL, *]; done)
    | (refine end_no ?_ _ _ rfl; simp [parseL, *]; done)

set_option maxHeartbeats 1000000 in
theorem parse_not (s : ByteArray) (hs : ∀ b ∈ s.data.toList, b.toNat < 128) (hsz : s.size ≤ 1000) (w : World) (hv : ∀ v, Lib.atoiAll s.data.toList ≠ .ok v) (hE : Errs w) (hp : parseN s = none) :
    Calls Tryd.prog 31 #[.string s] w fun e w' => ParseEnd s e ∧ Below w.heap.size w w' := by
  have HV := Lib.hid hv
  clear hv
  have hB := Below.refl w.heap.size w
  have HP := Lib.hid hp
  clear hp
  go_enter Tryd.func31, Tryd.ntmps31
  go_wp2_with (first
    | (go_at_call 36; refine (ef_any s _ hs ?_ hsz ?_ w _ (by assumption)).mono ?_; (first | decide | (intro b hb; simp at hb)); decide; rintro e w' ⟨rfl, hb⟩)
    | (go_at_call 37; refine (atoi_no s hsz HV.out w _ (by assumption) hE).mono ?_; rintro e w' ⟨⟨v0, N, rfl⟩, hb⟩)
    | (go_at_call 32; go_in)
    | (go_at_call 38; go_in))
  all_goals go_ret2
  all_goals have HQ := HP.out
  all_goals refine ⟨?_, (by first | exact hb | exact hb.alloc hb.size _)⟩
  all_goals first
    | (refine end_of _ ?_ rfl; simp [parseL, *]; done)
    | (refine end_no ?_ _ _ rfl; simp [parseL, *]; done)

theorem parse_any (s : ByteArray) (hs : ∀ b ∈ s.data.toList, b.toNat < 128) (hsz : s.size ≤ 1000) (w : World) (hE : Errs w) :
    Calls Tryd.prog 31 #[.string s] w fun e w' => ParseEnd s e ∧ Below w.heap.size w w' := by
  cases ha : Lib.atoiAll s.data.toList
  · rename_i v
    by_cases h1 : 127 < v
    · exact parse_high s hs hsz w v ha h1 (by unfold parseN; rw [ha]; simp [h1])
    · by_cases h2 : v < -128
      · exact parse_deep s hs hsz w v ha h2 (by unfold parseN; rw [ha]; simp [h2])
      · exact parse_num s hs hsz w v ha (by omega) (by omega) (by unfold parseN; rw [ha]; simp [h1, h2])
  · exact parse_not s hs hsz w (fun v h => by rw [ha] at h; cases h) hE (by unfold parseN; rw [ha])
  · exact parse_not s hs hsz w (fun v h => by rw [ha] at h; cases h) hE (by unfold parseN; rw [ha])
end Go.Proofs.YtnfddblpenninaaDoor
namespace Go.Proofs.YtnfddblpenninaaDoor
open Go.RowKit

def LevelEnd (s : ByteArray) (e : Ending) : Prop :=
  (∃ n, parseL s = some n ∧ e = .returned (.tuple #[.int .i64 n, .bool true])) ∨ (parseL s = none ∧ e = .returned (.tuple #[.int .i64 0, .bool false]))

theorem tuple_of {a b : Int} {x y : Bool} (h : a = b) (h' : x = y) : Ending.returned (.tuple #[.int .i64 a, .bool x]) = .returned (.tuple #[.int .i64 b, .bool y]) := by rw [h, h']

set_option maxHeartbeats 400000 in
theorem level_any (s : ByteArray) (hs : ∀ b ∈ s.data.toList, b.toNat < 128) (hsz : s.size ≤ 1000) (w0 W : World) (h0 : Below w0.heap.size w0 W) (hE : Errs w0) :
    Calls Tryd.prog 21 #[.string s] W fun e w' => LevelEnd s e ∧ Below w0.heap.size w0 w' := by
  have hE' := hE.below h0
  go_enter Tryd.func21, Tryd.ntmps21
  go_wp2_with fail
  refine (parse_any s hs hsz W hE').mono ?_
  rintro e w' ⟨⟨n, hn, rfl⟩ | ⟨hn, T, p, rfl⟩, hb⟩
  · have hb := h0.trans (hb.mono h0.size)
    obtain ⟨b1, b2⟩ := parseL_bounds hn
    have HN := Lib.hid hn
    clear hn
    go_wp2
    go_ret2
    exact ⟨.inl ⟨n, HN.out, rfl⟩, hb⟩
  · have hb := h0.trans (hb.mono h0.size)
    have HN := Lib.hid hn
    clear hn
    go_wp2
    go_ret2
    exact ⟨.inr ⟨HN.out, rfl⟩, hb⟩

set_option maxHeartbeats 400000 in
theorem name_any (n : Int) (h1 : -1 ≤ n) (h2 : n ≤ 7) (w : World) :
    Calls Tryd.prog 22 #[.int .i64 n] w fun e w' => e = .returned (.string (lname n)) ∧ w = w' := by
  have : n = -1 ∨ n = 0 ∨ n = 1 ∨ n = 2 ∨ n = 3 ∨ n = 4 ∨ n = 5 ∨ n = 6 ∨ n = 7 := by omega
  rcases this with rfl | rfl | rfl | rfl | rfl | rfl | rfl | rfl | rfl
  all_goals
    go_enter Tryd.func22, Tryd.ntmps22
    go_wp2
    go_ret
    exact ⟨rfl, rfl⟩

set_option maxHeartbeats 400000 in
theorem awake_any (w0 W : World) (h0 : Below w0.heap.size w0 W) (hE : Errs w0) :
    Calls Tryd.prog 7 #[] W fun e w' => e = .returned (.bool true) ∧ Below w0.heap.size w0 w' := by
  go_enter Tryd.func7, Tryd.ntmps7
  go_wp2_with fail
  refine (level_any _ (by decide) (by decide) w0 _ h0 hE).mono ?_
  rintro e w' ⟨⟨n, hn, rfl⟩ | ⟨hn, rfl⟩, hb⟩
  · obtain rfl : n = 1 := by rw [info_parses] at hn; injection hn with hn; exact hn.symm
    clear hn
    go_wp2_with fail
    refine (name_any 1 (by decide) (by decide) _).mono ?_
    rintro e w' ⟨rfl, rfl⟩
    have hq : ((lname 1).toList == [105, 110, 102, 111]) = true := by decide +kernel
    go_wp2
    go_ret
    exact ⟨rfl, hb⟩
  · rw [info_parses] at hn
    cases hn
end Go.Proofs.YtnfddblpenninaaDoor
