/- FnLogParse: a text is read as a level only if it is this level's name, in letters of any case, or a number; and a name in letters of any case is read. For every input; the listed variables of packages strconv and math/bits start as the program's text lays them (the card ties them). -/
import Derived.Test.YtdpjkhbjkgkjiaaDoorParse
import Derived.Test.YtdpjkhbjkgkjiaaDoorErrs
namespace Go.Proofs.YtdpjkhbjkgkjiaaDoor
open Go.ChangeShapes Go.WideShapes Go.ChangeAt Go.RowKit
open Go.ChangeMaps (setBlock shut_map_nil open_string shut_string keptBut_setBlock frozen?_setBlock heap_setBlock_same)

set_option maxRecDepth 100000 in
set_option maxHeartbeats 400000 in
theorem parse_long (s : ByteArray) (level great : Int) (hsz : 20 < s.size) (w : World) :
    Calls Tryd.prog 3 #[.string s, .int .u8 level, .int .u32 great] w fun e w' => e = .returned (.bool true) ∧ Below w.heap.size w w' := by
  by_cases hz : 2147483647 < s.size
  · go_enter Tryd.func3, Tryd.ntmps3
    go_wp2
    go_ret
    exact ⟨rfl, Below.refl _ _⟩
  · go_enter Tryd.func3, Tryd.ntmps3
    go_wp2
    go_ret
    exact ⟨rfl, Below.refl _ _⟩

set_option maxRecDepth 100000 in
set_option maxHeartbeats 400000 in
theorem parse_wild (s : ByteArray) (level great : Int) (hsz : s.size ≤ 20) (j : Nat) (hj : j < s.size) (hb : 128 ≤ s[j].toNat) (w : World) :
    Calls Tryd.prog 3 #[.string s, .int .u8 level, .int .u32 great] w fun e w' => e = .returned (.bool true) ∧ Below w.heap.size w w' := by
  have HB := Lib.hid hb
  clear hb
  go_enter Tryd.func3, Tryd.ntmps3
  go_wp2
  go_loop [7] (fun i => ∃ k : Nat, k ≤ j ∧ i = .int .i64 k) (fun i => s.size - (intOf i).toNat)
  case atStart => exact ⟨0, Nat.zero_le _, rfl⟩
  case round =>
    obtain ⟨k, hk, rfl⟩ := hrel
    have hlt : k < s.size := by omega
    by_cases hc : 128 ≤ s[k].toNat
    · have hc' : (128 : Int) ≤ ((s[k].toNat : Nat) : Int) := by omega
      go_wp2
      go_ret
      exact ⟨rfl, Below.refl _ _⟩
    · have hkj : k < j := by
        rcases Nat.lt_or_ge k j with h | h
        · exact h
        · obtain rfl : k = j := by omega
          exact absurd HB.out hc
      have hc' : ((s[k].toNat : Nat) : Int) < 128 := by omega
      go_wp2
      go_round
      case rel => exact ⟨k + 1, by omega, by go_num⟩
      case measure => simp [intOf]; omega

theorem parse_all (s : ByteArray) (level great : Int) (hl0 : 0 ≤ level) (hl1 : level ≤ 255) (hg0 : 0 ≤ great) (hg1 : great ≤ 4294967295) (w : World) (hE : Errs w) :
    Calls Tryd.prog 3 #[.string s, .int .u8 level, .int .u32 great] w fun e w' => e = .returned (.bool true) ∧ Below w.heap.size w w' := by
  by_cases hz : 20 < s.size
  · exact parse_long s level great hz w
  · by_cases ha : ∀ b ∈ s.data.toList, b.toNat < 128
    · exact parse_walk s level great hl0 hl1 hg0 hg1 ha (by omega) w hE
    · simp only [Classical.not_forall] at ha
      obtain ⟨b, hb, hb2⟩ := ha
      obtain ⟨j, hj, rfl⟩ := List.mem_iff_getElem.1 hb
      have hj' : j < s.size := by simpa using hj
      exact parse_wild s level great (by omega) j hj' (by have : s[j] = s.data.toList[j] := by simp; rfl
                                                          rw [this]; omega) w

set_option maxRecDepth 100000 in
theorem parse_contract (H : Type) (enc : TypeId × Value → H) (W : World) (base : Nat) (args : Array Value) (ds gs : List (DataW H)) (before : List MemPlace)
    (hval : ∀ (j : Nat) t v, Tryd.f3.params[j]? = some t → args[j]? = some v → Value.okWide Tryd.prog W .any base t v)
    (hW : DataW.Whole enc Tryd.prog Tryd.f3.params.toList Rows.fnLogParseSpec.vars false W args.toList ds gs before) (hL : laidMetH Tryd.prog laidAll W) :
    Calls Tryd.prog 3 args W fun e W' => ∃ v, e = .returned v ∧ Rows.fnLogParseSpec.post enc Tryd.prog Tryd.f3 false true false false W args v W' := by
  have hW' := hW
  obtain ⟨p, q, hA0, hV, rfl, hfz, hnd⟩ := hW
  have hA : DataW.TrodAll enc Tryd.prog W 0 (fun _ => true) true Tryd.f3.params.toList args.toList ds p := hA0
  rw [Tryd.params3] at hA hval
  obtain ⟨v0, v1, v2, d0, d1, d2, p0, p1, p2, rfl, rfl, rfl, h0, h1, h2⟩ := trodAll_three hA
  obtain ⟨rfl, rfl⟩ := trodVars_none hV
  obtain ⟨s, rfl, rfl, rfl, hs⟩ := open_string Tryd.underlying9 (hval 0 9 v0 rfl rfl) h0
  obtain ⟨level, rfl, rfl, rfl, w1⟩ := open_int Tryd.underlying5 (hval 1 5 v1 rfl rfl) h1
  obtain ⟨great, rfl, rfl, rfl, w2⟩ := open_int Tryd.underlying22 (hval 2 22 v2 rfl rfl) h2
  clear hA0
  simp only [List.append_nil] at hW'
  have b1 := bounds_u8 w1
  have b2 := bounds_u32 w2
  refine (parse_all s level great b1.1 b1.2 b2.1 b2.2 W (errs_of hL)).mono fun e W' ⟨he, hb⟩ => ?_
  subst he
  exact ⟨_, rfl, post_below (pa := []) (pv := []) hW' (fun _ _ _ => trodAll_mk1 (shut_bool Tryd.underlying4 _))
    (fun _ _ => trodAll_mk3 (shut_string Tryd.underlying9 hs) (shut_int Tryd.underlying5 w1) (shut_int Tryd.underlying22 w2)) (fun _ _ => rfl) rfl hb⟩

theorem parse_reads (os : Os) {H : Type} (enc : TypeId × Value → H) : ∃ places, DataW.whole enc Tryd.prog ((laidWorld os).forCall (fun _ _ => 0) ⟨#[], #[.string ⟨#[]⟩, .int .u8 0, .int .u32 0], []⟩).memory Tryd.f3.params.toList Rows.fnLogParseSpec.vars false #[Value.string ⟨#[]⟩, .int .u8 0, .int .u32 0].toList 8 = some ([.lit (.string []), .lit (.int .u8 0), .lit (.int .u32 0)], [], places) :=
  ⟨[], by kernel_rfl⟩

set_option maxRecDepth 100000 in
theorem parse_lifted (os : Os) (started : os.Started) (H : Type) (enc : TypeId × Value → H) (F : Stop.Interp) :
    ReturnsInHanded {} Tryd.checked os 3 .any ((OpenSpec.ofChange Rows.fnLogParseSpec).preRow enc Tryd.prog Tryd.f3 Rows.fnLogParseRow.domain false Rows.fnLogParseRow.laid) (((OpenSpec.ofChange Rows.fnLogParseSpec).at F).post enc Tryd.prog Tryd.f3 false true false false) := by
  obtain ⟨places, hx⟩ := parse_reads os enc
  refine returnsInHanded_of_row (C := Tryd.checked) (s := OpenSpec.ofChange Rows.fnLogParseSpec) Tryd.own started (by kernel_rfl) Tryd.func3
    (witness_row_at (enc := enc) (C := Tryd.checked) false (laidWorld os) #[.string ⟨#[]⟩, .int .u8 0, .int .u32 0] rfl (by kernel_rfl) (by kernel_rfl) (by kernel_rfl)
      (OpenSpec.preRow_of_cond 8 hx (by kernel_rfl) (fun k hk => by cases hk) (by kernel_rfl) (laid_met os _))) ?_
  intro W base args ds gs before hval hW _ _ _ hL _ _
  exact parse_contract H enc W base args ds gs before hval hW hL

theorem parse_said : Rows.FnLogParseSaid :=
  OpenClaim.holds_of_cond 3 Tryd.f3 rfl rfl rfl rfl rfl rfl rfl ⟨rfl, rfl, rfl, rfl, rfl⟩ rfl rfl rfl rfl rfl (by kernel_rfl) Tryd.func3 (by kernel_rfl)
    (of_decide_eq_true (by kernel_rfl)) (by unfold Func.isWrapper; rw [if_neg (of_decide_eq_false (by kernel_rfl))]; exact ⟨rfl, rfl⟩)
    (fun os started H enc _ F => by rw [OpenClaim.pre_eq_preRow]; exact parse_lifted os started H enc F)

theorem parse_plain (f : FuncId) (fn : Func) (hf : Tryd.pinned.checked.prog.funcNamed "given.example/pub-quill/laws.FnLogParse" = some f) (hfn : Tryd.pinned.checked.prog.funcs[f]? = some fn) :
    true = Tryd.pinned.checked.prog.looks [] ∧ ∀ (j : Nat) t, fn.params[j]? = some t → Tryd.pinned.checked.prog.wantsStandIn t = false := by
  obtain rfl : f = 3 := Option.some.inj ((show Tryd.prog.funcNamed "given.example/pub-quill/laws.FnLogParse" = some 3 by kernel_rfl).symm.trans hf) |>.symm
  obtain rfl : fn = Tryd.f3 := (Option.some.inj (Tryd.func3.symm.trans hfn)).symm
  refine ⟨by kernel_rfl, fun j t ht => ?_⟩
  rw [Tryd.params3] at ht
  have hm := Array.mem_of_getElem? ht
  simp only [List.mem_toArray, List.mem_cons, List.not_mem_nil, or_false] at hm
  rcases hm with rfl | rfl | rfl
  · exact (show Tryd.prog.wantsStandIn 9 = false by kernel_rfl)
  · exact (show Tryd.prog.wantsStandIn 5 = false by kernel_rfl)
  · exact (show Tryd.prog.wantsStandIn 22 = false by kernel_rfl)

theorem parse_card : Rows.FnLogParseCardSaid :=
  Claim7.holds_tied_plain_at .later [] _ _ _ _ parse_said (fun _ h => by cases h) (by kernel_rfl) (fun _ h => by cases h) fnLogParse_row_tie rfl ⟨rfl, rfl⟩ (by kernel_rfl) rfl parse_plain (by kernel_rfl)
#print axioms parse_card
end Go.Proofs.YtdpjkhbjkgkjiaaDoor
