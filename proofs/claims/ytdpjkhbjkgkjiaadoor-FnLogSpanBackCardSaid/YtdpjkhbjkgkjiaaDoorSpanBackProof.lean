/- FnLogSpanBack: what is written of a duration is read as it. For every input; the listed variables of packages strconv and math/bits start as the program's text lays them (the card ties them). -/
import Derived.Test.YtdpjkhbjkgkjiaaDoorSpaE
namespace Go.Proofs.YtdpjkhbjkgkjiaaDoor
open Go.ChangeShapes Go.WideShapes Go.ChangeAt Go.RowKit

set_option maxRecDepth 100000 in
theorem spanback_contract (H : Type) (enc : TypeId × Value → H) (W : World) (base : Nat) (args : Array Value) (ds gs : List (DataW H)) (before : List MemPlace)
    (hval : ∀ (j : Nat) t v, Tryd.f5.params[j]? = some t → args[j]? = some v → Value.okWide Tryd.prog W .any base t v)
    (hW : DataW.Whole enc Tryd.prog Tryd.f5.params.toList Rows.fnLogSpanBackSpec.vars false W args.toList ds gs before) (hL : laidMetH Tryd.prog laidAll W) :
    Calls Tryd.prog 5 args W fun e W' => ∃ v, e = .returned v ∧ Rows.fnLogSpanBackSpec.post enc Tryd.prog Tryd.f5 false true false false W args v W' := by
  have hW' := hW
  obtain ⟨p, q, hA0, hV, rfl, hfz, hnd⟩ := hW
  have hA : DataW.TrodAll enc Tryd.prog W 0 (fun _ => true) true Tryd.f5.params.toList args.toList ds p := hA0
  have hAll := hA
  rw [Tryd.params5] at hA hval
  obtain ⟨v0, d0, rfl, rfl, h0⟩ := trodAll_one hA
  obtain ⟨rfl, rfl⟩ := trodVars_none hV
  obtain ⟨d, rfl, rfl, rfl, w0⟩ := open_int Tryd.underlying2 (hval 0 2 v0 rfl rfl) h0
  have b0 := bounds_i64 w0
  refine (spanback_any d b0.1 (by have := b0.2; omega) W (errs_of hL)).mono fun e W' ⟨he, hb⟩ => ?_
  subst he
  refine ⟨_, rfl, post_below hW' (fun _ _ _ => trodAll_mk1 (shut_bool Tryd.underlying4 _)) (fun sp hsp => args_keep Tryd.laidOut hb (by rw [Tryd.params5]; decide +kernel) hAll (fun p hp => hW'.lt p (by simp at hp)) (fun p hp => hsp p (by simp at hp))) (fun _ _ => rfl) (by simp) hb⟩

theorem spanback_reads (os : Os) {H : Type} (enc : TypeId × Value → H) : ∃ places, DataW.whole enc Tryd.prog ((laidWorld os).forCall (fun _ _ => 0) ⟨#[], #[.int .i64 0], []⟩).memory Tryd.f5.params.toList Rows.fnLogSpanBackSpec.vars false #[Value.int .i64 0].toList 8 = some ([.lit (.int .i64 0)], [], places) :=
  ⟨[], by kernel_rfl⟩

set_option maxRecDepth 100000 in
theorem spanback_lifted (os : Os) (started : os.Started) (H : Type) (enc : TypeId × Value → H) (F : Stop.Interp) :
    ReturnsInHanded {} Tryd.checked os 5 .any ((OpenSpec.ofChange Rows.fnLogSpanBackSpec).preRow enc Tryd.prog Tryd.f5 Rows.fnLogSpanBackRow.domain false Rows.fnLogSpanBackRow.laid) (((OpenSpec.ofChange Rows.fnLogSpanBackSpec).at F).post enc Tryd.prog Tryd.f5 false true false false) := by
  obtain ⟨places, hx⟩ := spanback_reads os enc
  refine returnsInHanded_of_row (C := Tryd.checked) (s := OpenSpec.ofChange Rows.fnLogSpanBackSpec) Tryd.own started (by kernel_rfl) Tryd.func5
    (witness_row_at (enc := enc) (C := Tryd.checked) false (laidWorld os) #[.int .i64 0] rfl (by kernel_rfl) (by kernel_rfl) (by kernel_rfl)
      (OpenSpec.preRow_of_cond 8 hx (by kernel_rfl) (fun k hk => by cases hk) (by kernel_rfl) (laid_met os _))) ?_
  intro W base args ds gs before hval hW _ _ _ hL _ _
  exact spanback_contract H enc W base args ds gs before hval hW hL

theorem spanback_said : Rows.FnLogSpanBackSaid :=
  OpenClaim.holds_of_cond 5 Tryd.f5 rfl rfl rfl rfl rfl rfl rfl ⟨rfl, rfl, rfl, rfl, rfl⟩ rfl rfl rfl rfl rfl (by kernel_rfl) Tryd.func5 (by kernel_rfl)
    (of_decide_eq_true (by kernel_rfl)) (by unfold Func.isWrapper; rw [if_neg (of_decide_eq_false (by kernel_rfl))]; exact ⟨rfl, rfl⟩)
    (fun os started H enc _ F => by rw [OpenClaim.pre_eq_preRow]; exact spanback_lifted os started H enc F)

theorem spanback_plain (f : FuncId) (fn : Func) (hf : Tryd.pinned.checked.prog.funcNamed "given.example/pub-quill/laws.FnLogSpanBack" = some f) (hfn : Tryd.pinned.checked.prog.funcs[f]? = some fn) :
    true = Tryd.pinned.checked.prog.looks [] ∧ ∀ (j : Nat) t, fn.params[j]? = some t → Tryd.pinned.checked.prog.wantsStandIn t = false := by
  obtain rfl : f = 5 := Option.some.inj ((show Tryd.prog.funcNamed "given.example/pub-quill/laws.FnLogSpanBack" = some 5 by kernel_rfl).symm.trans hf) |>.symm
  obtain rfl : fn = Tryd.f5 := (Option.some.inj (Tryd.func5.symm.trans hfn)).symm
  refine ⟨by kernel_rfl, fun j t ht => ?_⟩
  rw [Tryd.params5] at ht
  have hm := Array.mem_of_getElem? ht
  simp only [List.mem_toArray, List.mem_cons, List.not_mem_nil, or_false] at hm
  rcases hm with rfl
  exact (show Tryd.prog.wantsStandIn 2 = false by kernel_rfl)

theorem spanback_card : Rows.FnLogSpanBackCardSaid :=
  Claim7.holds_tied_plain_at .later [] _ _ _ _ spanback_said (fun _ h => by cases h) (by kernel_rfl) (fun _ h => by cases h) fnLogSpanBack_row_tie rfl ⟨rfl, rfl⟩ (by kernel_rfl) rfl spanback_plain (by kernel_rfl)
#print axioms spanback_card
end Go.Proofs.YtdpjkhbjkgkjiaaDoor
