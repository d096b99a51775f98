/- FnLogLayouts: a time by layouts of package time is what these say. For every input; the listed variables of packages ztime, strconv and math/bits start as the program's text lays them (the card ties them). -/
import Derived.Test.YtggebombeflmhaaDoorLayY
import Derived.Test.YtggebombeflmhaaDoorLayX
import Derived.OpenVars
import Derived.Deep.DeepWitnessRowRef
namespace Go.Proofs.YtggebombeflmhaaDoor
open Go.ChangeShapes Go.WideShapes Go.ChangeAt Go.RowKit

/-- A WORLD FOR THE WITNESS: the settled one with four blocks more (the texts of the two errors, the two lists of names), the variables holding what their initialisers lay. -/
noncomputable def laidWorld (os : Os) : World :=
  let N := (World.settled Tryd.prog os).heap.size
  let w0 := World.holding Tryd.prog os ⟨#[.cells #[.string ⟨#[118, 97, 108, 117, 101, 32, 111, 117, 116, 32, 111, 102, 32, 114, 97, 110, 103, 101]⟩] 82, .cells #[.string ⟨#[105, 110, 118, 97, 108, 105, 100, 32, 115, 121, 110, 116, 97, 120]⟩] 82, .cells #[.string ⟨#[83, 117, 110, 100, 97, 121]⟩, .string ⟨#[77, 111, 110, 100, 97, 121]⟩, .string ⟨#[84, 117, 101, 115, 100, 97, 121]⟩, .string ⟨#[87, 101, 100, 110, 101, 115, 100, 97, 121]⟩, .string ⟨#[84, 104, 117, 114, 115, 100, 97, 121]⟩, .string ⟨#[70, 114, 105, 100, 97, 121]⟩, .string ⟨#[83, 97, 116, 117, 114, 100, 97, 121]⟩] 9, .cells #[.string ⟨#[74, 97, 110, 117, 97, 114, 121]⟩, .string ⟨#[70, 101, 98, 114, 117, 97, 114, 121]⟩, .string ⟨#[77, 97, 114, 99, 104]⟩, .string ⟨#[65, 112, 114, 105, 108]⟩, .string ⟨#[77, 97, 121]⟩, .string ⟨#[74, 117, 110, 101]⟩, .string ⟨#[74, 117, 108, 121]⟩, .string ⟨#[65, 117, 103, 117, 115, 116]⟩, .string ⟨#[83, 101, 112, 116, 101, 109, 98, 101, 114]⟩, .string ⟨#[79, 99, 116, 111, 98, 101, 114]⟩, .string ⟨#[78, 111, 118, 101, 109, 98, 101, 114]⟩, .string ⟨#[68, 101, 99, 101, 109, 98, 101, 114]⟩] 9], #[], []⟩
  let put (h : Array Obj) (g : Nat) (cs : Array Value) : Array Obj := h.modify g fun
    | .cells _ t frozen => .cells cs t frozen
    | o => o
  let h0 := put (put (put (put (put w0.heap 3 #[.iface 80 (.pointer (some ⟨N + 1, 0, none⟩))]) 4 #[.iface 80 (.pointer (some ⟨N, 0, none⟩))]) 0 #[.int .i64 260, .int .i64 265, .int .i64 1038, .int .i64 1040, .int .i64 1042, .int .i64 276]) 2 #[.slice (some ⟨N + 2, 0, none⟩) 7 7]) 1 #[.slice (some ⟨N + 3, 0, none⟩) 12 12]
  let h1 := put h0 5 #[.int .u64 1, .int .u64 10, .int .u64 100, .int .u64 1000, .int .u64 10000, .int .u64 100000, .int .u64 1000000, .int .u64 10000000, .int .u64 100000000, .int .u64 1000000000, .int .u64 10000000000, .int .u64 100000000000, .int .u64 1000000000000, .int .u64 10000000000000, .int .u64 100000000000000, .int .u64 1000000000000000, .int .u64 10000000000000000, .int .u64 100000000000000000, .int .u64 1000000000000000000, .int .u64 10000000000000000000]
  let h2 := put h1 6 #[.int .u8 0, .int .u8 1, .int .u8 28, .int .u8 2, .int .u8 29, .int .u8 14, .int .u8 24, .int .u8 3, .int .u8 30, .int .u8 22, .int .u8 20, .int .u8 15, .int .u8 25, .int .u8 17, .int .u8 4, .int .u8 8, .int .u8 31, .int .u8 27, .int .u8 13, .int .u8 23, .int .u8 21, .int .u8 19, .int .u8 16, .int .u8 7, .int .u8 26, .int .u8 12, .int .u8 18, .int .u8 6, .int .u8 11, .int .u8 5, .int .u8 10, .int .u8 9]
  let h3 := put h2 7 #[.int .u8 0, .int .u8 1, .int .u8 56, .int .u8 2, .int .u8 57, .int .u8 49, .int .u8 28, .int .u8 3, .int .u8 61, .int .u8 58, .int .u8 42, .int .u8 50, .int .u8 38, .int .u8 29, .int .u8 17, .int .u8 4, .int .u8 62, .int .u8 47, .int .u8 59, .int .u8 36, .int .u8 45, .int .u8 43, .int .u8 51, .int .u8 22, .int .u8 53, .int .u8 39, .int .u8 33, .int .u8 30, .int .u8 24, .int .u8 18, .int .u8 12, .int .u8 5, .int .u8 63, .int .u8 55, .int .u8 48, .int .u8 27, .int .u8 60, .int .u8 41, .int .u8 37, .int .u8 16, .int .u8 46, .int .u8 35, .int .u8 44, .int .u8 21, .int .u8 52, .int .u8 32, .int .u8 23, .int .u8 11, .int .u8 54, .int .u8 26, .int .u8 40, .int .u8 15, .int .u8 34, .int .u8 20, .int .u8 31, .int .u8 10, .int .u8 25, .int .u8 14, .int .u8 19, .int .u8 9, .int .u8 13, .int .u8 8, .int .u8 7, .int .u8 6]
  { w0 with heap := h3 }
theorem laid_met (os : Os) (args : Array Value) : laidMet Tryd.prog laidAll ((laidWorld os).forCall (fun _ _ => 0) ⟨#[], args, []⟩).memory :=
  laidMet_of_run' 8 (by kernel_rfl) (by kernel_rfl)


theorem vars_forms {H : Type} {enc : TypeId × Value → H} {P : Program} {w : World} {sp : Nat → Bool} {a b c : String} : ∀ {gs : List (DataW H)} {ps : List MemPlace}, DataW.TrodVars enc P w sp [a, b, c] gs ps → ∃ g1 g2 g3, gs = [g1, g2, g3]
  | [], _, h => h.elim
  | [_], _, ⟨_, _, _, _, _, _, _, _, _, _, h, _⟩ => h.elim
  | [_, _], _, ⟨_, _, _, _, _, _, _, _, _, _, ⟨_, _, _, _, _, _, _, _, _, _, h, _⟩, _⟩ => h.elim
  | [g1, g2, g3], _, _ => ⟨g1, g2, g3, rfl⟩
  | _ :: _ :: _ :: _ :: _, _, ⟨_, _, _, _, _, _, _, _, _, _, ⟨_, _, _, _, _, _, _, _, _, _, ⟨_, _, _, _, _, _, _, _, _, _, h, _⟩, _⟩, _⟩ => h.elim

set_option maxRecDepth 100000 in
theorem layouts_contract (H : Type) (enc : TypeId × Value → H) (W : World) (base : Nat) (args : Array Value) (ds gs : List (DataW H)) (before : List MemPlace)
    (hval : ∀ (j : Nat) t v, Tryd.f3.params[j]? = some t → args[j]? = some v → Value.okWide Tryd.prog W .any base t v)
    (hW : DataW.Whole enc Tryd.prog Tryd.f3.params.toList Rows.fnLogLayoutsSpec.vars false W args.toList ds gs before) (hL : laidMetH Tryd.prog laidAll W) :
    Calls Tryd.prog 3 args W fun e W' => ∃ v, e = .returned v ∧ Rows.fnLogLayoutsSpec.post enc Tryd.prog Tryd.f3 false true false false W args v W' := by
  have hW' := hW
  obtain ⟨p, q, hA0, hV, rfl, hfz, hnd⟩ := hW
  have hA : DataW.TrodAll enc Tryd.prog W 0 (fun _ => true) true Tryd.f3.params.toList args.toList ds p := hA0
  rw [Tryd.params3] at hA hval
  obtain ⟨v0, v1, v2, d0, d1, d2, p0, p1, p2, rfl, rfl, rfl, h0, h1, h2⟩ := trodAll_three hA
  obtain ⟨g1, g2, g3, rfl⟩ := vars_forms hV
  obtain ⟨ns, rfl, rfl, rfl, w0⟩ := open_int Tryd.underlying2 (hval 0 2 v0 rfl rfl) h0
  obtain ⟨mm, rfl, rfl, rfl, w1⟩ := open_int Tryd.underlying22 (hval 1 22 v1 rfl rfl) h1
  obtain ⟨wh, rfl, rfl, rfl, w2⟩ := open_int Tryd.underlying5 (hval 2 5 v2 rfl rfl) h2
  clear hA0
  have b0 := bounds_i64 w0
  have b1 := bounds_i16 w1
  have b2 := bounds_u8 w2
  refine (layouts_any ns mm wh b0.1 b0.2 b1.1 b1.2 b2.1 b2.2 W (tabs_of hL) (errs_of hL)).mono fun e W' ⟨he, hb⟩ => ?_
  subst he
  refine ⟨_, rfl, [_, _, _], [g1, g2, g3], _, [], [], q, hW', trodAll_mk1 (shut_bool Tryd.underlying4 _), trodAll_mk3 (shut_int Tryd.underlying2 w0) (shut_int Tryd.underlying22 w1) (shut_int Tryd.underlying5 w2), Below.trodVars Tryd.laidOut hb (by kernel_rfl) hV, ?_, fun h => by cases h⟩
  refine World.keptBut_mono (fun p hp => ⟨hp, ?_⟩) (hb.frame (· ∈ _))
  simpa using hp

theorem layouts_reads (os : Os) {H : Type} (enc : TypeId × Value → H) : ∃ x, DataW.whole enc Tryd.prog ((laidWorld os).forCall (fun _ _ => 0) ⟨#[], #[.int .i64 0, .int .i16 0, .int .u8 0], []⟩).memory Tryd.f3.params.toList Rows.fnLogLayoutsSpec.vars false #[Value.int .i64 0, .int .i16 0, .int .u8 0].toList 8 = some x :=
  Option.isSome_iff_exists.1 (by kernel_rfl)

set_option maxRecDepth 100000 in
theorem layouts_lifted (os : Os) (started : os.Started) (H : Type) (enc : TypeId × Value → H) (F : Stop.Interp) :
    ReturnsInHanded {} Tryd.checked os 3 .any ((OpenSpec.ofChange Rows.fnLogLayoutsSpec).preRow enc Tryd.prog Tryd.f3 Rows.fnLogLayoutsRow.domain false Rows.fnLogLayoutsRow.laid) (((OpenSpec.ofChange Rows.fnLogLayoutsSpec).at F).post enc Tryd.prog Tryd.f3 false true false false) := by
  obtain ⟨x, hx⟩ := layouts_reads os enc
  refine returnsInHanded_of_row (C := Tryd.checked) (s := OpenSpec.ofChange Rows.fnLogLayoutsSpec) Tryd.own started (by kernel_rfl) Tryd.func3
    (witness_row_atRef (enc := enc) (C := Tryd.checked) false (laidWorld os) #[.int .i64 0, .int .i16 0, .int .u8 0] rfl (by kernel_rfl) (by kernel_rfl) (by kernel_rfl)
      (OpenSpec.preRow_of_cond 8 hx rfl (fun k hk => by cases hk) (by kernel_rfl) (laid_met os _))) ?_
  intro W base args ds gs before hval hW _ _ _ hL _ _
  exact layouts_contract H enc W base args ds gs before hval hW hL

theorem layouts_said : Rows.FnLogLayoutsSaid :=
  OpenClaim.holds_of_cond 3 Tryd.f3 rfl rfl rfl rfl rfl rfl rfl ⟨rfl, rfl, rfl, rfl, rfl⟩ rfl rfl rfl rfl rfl (by kernel_rfl) Tryd.func3 (by kernel_rfl)
    (of_decide_eq_true (by kernel_rfl)) (by unfold Func.isWrapper; rw [if_neg (of_decide_eq_false (by kernel_rfl))]; exact ⟨rfl, rfl⟩)
    (fun os started H enc _ F => by rw [OpenClaim.pre_eq_preRow]; exact layouts_lifted os started H enc F)

theorem layouts_plain (f : FuncId) (fn : Func) (hf : Tryd.pinned.checked.prog.funcNamed "given.example/pub-quill/laws.FnLogLayouts" = some f) (hfn : Tryd.pinned.checked.prog.funcs[f]? = some fn) :
    true = Tryd.pinned.checked.prog.looks [] ∧ ∀ (j : Nat) t, fn.params[j]? = some t → Tryd.pinned.checked.prog.wantsStandIn t = false := by
  obtain rfl : f = 3 := Option.some.inj ((show Tryd.prog.funcNamed "given.example/pub-quill/laws.FnLogLayouts" = some 3 by kernel_rfl).symm.trans hf) |>.symm
  obtain rfl : fn = Tryd.f3 := (Option.some.inj (Tryd.func3.symm.trans hfn)).symm
  refine ⟨by kernel_rfl, fun j t ht => ?_⟩
  rw [Tryd.params3] at ht
  have hm := Array.mem_of_getElem? ht
  simp only [List.mem_toArray, List.mem_cons, List.not_mem_nil, or_false] at hm
  rcases hm with rfl | rfl | rfl
  · exact (show Tryd.prog.wantsStandIn 2 = false by kernel_rfl)
  · exact (show Tryd.prog.wantsStandIn 22 = false by kernel_rfl)
  · exact (show Tryd.prog.wantsStandIn 5 = false by kernel_rfl)

theorem layouts_card : Rows.FnLogLayoutsCardSaid :=
  Claim7.holds_tied_plain_at .later [] _ _ _ _ layouts_said (fun _ h => by cases h) (by kernel_rfl) (fun _ h => by cases h) fnLogLayouts_row_tie rfl ⟨rfl, rfl⟩ (by kernel_rfl) rfl layouts_plain (by kernel_rfl)
#print axioms layouts_card
end Go.Proofs.YtggebombeflmhaaDoor
