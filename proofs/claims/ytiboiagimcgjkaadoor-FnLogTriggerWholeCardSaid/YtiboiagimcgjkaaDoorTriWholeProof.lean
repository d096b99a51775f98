/- FnLogTriggerWhole: of lines that are written to a TriggerLevelWriter those above the conditional level come out, in their order; with a line at the trigger level or above at the end, or Trigger, all of them, each once. For every input (the law's own guards: at most 39 lines of at most 100 bytes; levels from -1 to 7); the listed variables of packages strconv, math/bits and bytes start as the program's text lays them (the card ties them). -/
import Derived.Test.YtiboiagimcgjkaaDoorTriM
import Derived.Test.YtiboiagimcgjkaaDoorMulO
import Derived.Test.YtiboiagimcgjkaaDoorErrsT
namespace Go.Proofs.YtiboiagimcgjkaaDoor
open Go.ChangeShapes Go.WideShapes Go.ChangeAt Go.RowKit

set_option maxRecDepth 100000 in
theorem triw_contract (H : Type) (enc : TypeId × Value → H) (W : World) (base : Nat) (args : Array Value) (ds gs : List (DataW H)) (before : List MemPlace)
    (hval : ∀ (j : Nat) t v, Tryd.f5.params[j]? = some t → args[j]? = some v → Value.okWide Tryd.prog W .any base t v)
    (hW : DataW.Whole enc Tryd.prog Tryd.f5.params.toList Rows.fnLogTriggerWholeSpec.vars false W args.toList ds gs before) (hL : laidMetH Tryd.prog laidAllT W) :
    Calls Tryd.prog 5 args W fun e W' => ∃ v, e = .returned v ∧ Rows.fnLogTriggerWholeSpec.post enc Tryd.prog Tryd.f5 false true false false W args v W' := by
  have hW' := hW
  obtain ⟨p, q, hA0, hV, rfl, hfz, hnd⟩ := hW
  have hA : DataW.TrodAll enc Tryd.prog W 0 (fun _ => true) true Tryd.f5.params.toList args.toList ds p := hA0
  have hAll := hA
  rw [Tryd.params5] at hA hval
  obtain ⟨v0, v1, v2, v3, d0, d1, d2, d3, p0, p1, p2, p3, rfl, rfl, rfl, h0, h1, h2, h3⟩ := trodAll_four hA
  obtain ⟨rfl, rfl⟩ := trodVars_none hV
  obtain ⟨cond, rfl, rfl, rfl, w0⟩ := open_int Tryd.underlying3 (hval 0 3 v0 rfl rfl) h0
  obtain ⟨trig, rfl, rfl, rfl, w1⟩ := open_int Tryd.underlying3 (hval 1 3 v1 rfl rfl) h1
  obtain ⟨a1, n1, c1, rfl⟩ := okWide_slice Tryd.underlying23 (hval 2 23 v2 rfl rfl)
  obtain ⟨cl, rfl, rfl, rfl⟩ := open_bool Tryd.underlying4 (hval 3 4 v3 rfl rfl) h3
  have hwalk : Calls Tryd.prog 5 #[.int .i64 cond, .int .i64 trig, .slice a1 n1 c1, .bool cl] W fun e w' => e = .returned (.bool true) ∧ Below W.heap.size W w' := by
    obtain ⟨f1, t1⟩ := h2
    obtain ⟨ap, ma, ca, a, e1, ha, hna⟩ := open_ops t1
    simp only [Value.cells, List.cons.injEq, Value.slice.injEq, and_true] at e1
    obtain ⟨rfl, rfl, rfl⟩ := e1
    exact triwhole_walk cond trig _ _ _ a cl W ha hna (errsT_of hL)
  refine hwalk.mono fun e W' ⟨he, hb⟩ => ?_
  subst he
  refine ⟨_, rfl, post_below hW' (fun _ _ _ => trodAll_mk1 (shut_bool Tryd.underlying4 _)) (fun sp hsp => args_keep Tryd.laidOut hb (by rw [Tryd.params5]; decide +kernel) hAll (fun p hp => hW'.lt p (by simpa using hp)) (fun p hp => hsp p (by simpa using hp))) (fun _ _ => rfl) (by simp) hb⟩

theorem triw_reads (os : Os) {H : Type} (enc : TypeId × Value → H) : ∃ places, DataW.whole enc Tryd.prog ((laidWorld os).forCall (fun _ _ => 0) ⟨#[], #[.int .i64 0, .int .i64 0, .slice none 0 0, .bool false], []⟩).memory Tryd.f5.params.toList Rows.fnLogTriggerWholeSpec.vars false #[Value.int .i64 0, .int .i64 0, .slice none 0 0, .bool false].toList 8 = some ([.lit (.int .i64 0), .lit (.int .i64 0), .nil, .lit (.bool false)], [], places) :=
  ⟨[], by kernel_rfl⟩

set_option maxRecDepth 100000 in
theorem triw_lifted (os : Os) (started : os.Started) (H : Type) (enc : TypeId × Value → H) (F : Stop.Interp) :
    ReturnsInHanded {} Tryd.checked os 5 .any ((OpenSpec.ofChange Rows.fnLogTriggerWholeSpec).preRow enc Tryd.prog Tryd.f5 Rows.fnLogTriggerWholeRow.domain false Rows.fnLogTriggerWholeRow.laid) (((OpenSpec.ofChange Rows.fnLogTriggerWholeSpec).at F).post enc Tryd.prog Tryd.f5 false true false false) := by
  obtain ⟨places, hx⟩ := triw_reads os enc
  refine returnsInHanded_of_row (C := Tryd.checked) (s := OpenSpec.ofChange Rows.fnLogTriggerWholeSpec) Tryd.own started (by kernel_rfl) Tryd.func5
    (witness_row_at (enc := enc) (C := Tryd.checked) false (laidWorld os) #[.int .i64 0, .int .i64 0, .slice none 0 0, .bool false] rfl (by kernel_rfl) (by kernel_rfl) (by kernel_rfl)
      (OpenSpec.preRow_of_cond 8 hx (by kernel_rfl) (fun k hk => by cases hk) (by kernel_rfl) (laid_metT os _))) ?_
  intro W base args ds gs before hval hW _ _ _ hL _ _
  exact triw_contract H enc W base args ds gs before hval hW hL

theorem triw_said : Rows.FnLogTriggerWholeSaid :=
  OpenClaim.holds_of_cond 5 Tryd.f5 rfl rfl rfl rfl rfl rfl rfl ⟨rfl, rfl, rfl, rfl, rfl⟩ rfl rfl rfl rfl rfl (by kernel_rfl) Tryd.func5 (by kernel_rfl)
    (of_decide_eq_true (by kernel_rfl)) (by unfold Func.isWrapper; rw [if_neg (of_decide_eq_false (by kernel_rfl))]; exact ⟨rfl, rfl⟩)
    (fun os started H enc _ F => by rw [OpenClaim.pre_eq_preRow]; exact triw_lifted os started H enc F)

theorem triw_plain (f : FuncId) (fn : Func) (hf : Tryd.pinned.checked.prog.funcNamed "given.example/pub-quill/laws.FnLogTriggerWhole" = some f) (hfn : Tryd.pinned.checked.prog.funcs[f]? = some fn) :
    true = Tryd.pinned.checked.prog.looks [] ∧ ∀ (j : Nat) t, fn.params[j]? = some t → Tryd.pinned.checked.prog.wantsStandIn t = false := by
  obtain rfl : f = 5 := Option.some.inj ((show Tryd.prog.funcNamed "given.example/pub-quill/laws.FnLogTriggerWhole" = some 5 by kernel_rfl).symm.trans hf) |>.symm
  obtain rfl : fn = Tryd.f5 := (Option.some.inj (Tryd.func5.symm.trans hfn)).symm
  refine ⟨by kernel_rfl, fun j t ht => ?_⟩
  rw [Tryd.params5] at ht
  have hm := Array.mem_of_getElem? ht
  simp only [List.mem_toArray, List.mem_cons, List.not_mem_nil, or_false] at hm
  rcases hm with rfl | rfl | rfl | rfl
  · exact (show Tryd.prog.wantsStandIn 3 = false by kernel_rfl)
  · exact (show Tryd.prog.wantsStandIn 3 = false by kernel_rfl)
  · exact (show Tryd.prog.wantsStandIn 23 = false by kernel_rfl)
  · exact (show Tryd.prog.wantsStandIn 4 = false by kernel_rfl)

theorem triw_card : Rows.FnLogTriggerWholeCardSaid :=
  Claim7.holds_tied_plain_at .later [] _ _ _ _ triw_said (fun _ h => by cases h) (by kernel_rfl) (fun _ h => by cases h) fnLogTriggerWhole_row_tie rfl ⟨rfl, rfl⟩ (by kernel_rfl) rfl triw_plain (by kernel_rfl)
#print axioms triw_card
end Go.Proofs.YtiboiagimcgjkaaDoor
