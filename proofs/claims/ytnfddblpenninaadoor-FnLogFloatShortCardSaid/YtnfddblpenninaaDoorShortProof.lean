/- FnLogFloatShort: a float is written with as few digits as may be. For every input; the listed variables of packages strconv and math/bits start as the program's text lays them (the card ties them). -/
import Derived.Test.YtnfddblpenninaaDoorErrs
import Derived.Test.YtnfddblpenninaaDoorShoZ
import Derived.Test.YtnfddblpenninaaDoorTie
import Derived.OpenVars
import Derived.Deep.DeepWitnessRowRef
namespace Go.Proofs.YtnfddblpenninaaDoor
open Go.ChangeShapes Go.WideShapes Go.ChangeAt Go.RowKit

set_option maxRecDepth 100000 in
theorem shortf_contract (H : Type) (enc : TypeId × Value → H) (W : World) (base : Nat) (args : Array Value) (ds gs : List (DataW H)) (before : List MemPlace)
    (hval : ∀ (j : Nat) t v, Tryd.f4.params[j]? = some t → args[j]? = some v → Value.okWide Tryd.prog W .any base t v)
    (hW : DataW.Whole enc Tryd.prog Tryd.f4.params.toList Rows.fnLogFloatShortSpec.vars false W args.toList ds gs before) (hL : laidMetH Tryd.prog laidAll W) :
    Calls Tryd.prog 4 args W fun e W' => ∃ v, e = .returned v ∧ Rows.fnLogFloatShortSpec.post enc Tryd.prog Tryd.f4 false true false false W args v W' := by
  have hW' := hW
  obtain ⟨p, q, hA0, hV, rfl, hfz, hnd⟩ := hW
  have hA : DataW.TrodAll enc Tryd.prog W 0 (fun _ => true) true Tryd.f4.params.toList args.toList ds p := hA0
  have hAll := hA
  rw [Tryd.params4] at hA hval
  obtain ⟨v0, v1, d0, d1, p0, p1, rfl, rfl, rfl, h0, h1⟩ := trodAll_two hA
  obtain ⟨rfl, rfl⟩ := trodVars_none hV
  obtain ⟨b, rfl, rfl, rfl, w0⟩ := open_float Tryd.underlying22 (hval 0 22 v0 rfl rfl) h0
  obtain ⟨sh, rfl, rfl, rfl⟩ := open_bool Tryd.underlying4 (hval 1 4 v1 rfl rfl) h1
  have b0 : b < 18446744073709551616 := by simpa [Lit.wf] using w0
  refine (short_law b sh b0 W (glob_of hL) (errs_of hL)).mono fun e W' ⟨he, hb⟩ => ?_
  subst he
  refine ⟨_, rfl, post_below hW' (fun _ _ _ => trodAll_mk1 (shut_bool Tryd.underlying4 _)) (fun sp hsp => args_keep Tryd.laidOut hb (by rw [Tryd.params4]; decide +kernel) hAll (fun p hp => by simp at hp) (fun p hp => by simp at hp)) (fun _ _ => rfl) (by simp) hb⟩

theorem shortf_reads (os : Os) {H : Type} (enc : TypeId × Value → H) : ∃ places, DataW.whole enc Tryd.prog ((laidWorld os).forCall (fun _ _ => 0) ⟨#[], #[.float .f64 0, .bool false], []⟩).memory Tryd.f4.params.toList Rows.fnLogFloatShortSpec.vars false #[Value.float .f64 0, .bool false].toList 8 = some ([.lit (.float .f64 0), .lit (.bool false)], [], places) :=
  ⟨[], by kernel_rfl⟩

theorem pow_types : Tryd.prog.cellTypes Tryd.prog.depth 139 = some (List.replicate 1392 36) := by kernel_rfl
theorem pow_zero : ((begin Tryd.prog (fun _ _ => 0) default).world.heap[5]?).bind Obj.row? = some (Array.replicate 1392 (Value.int .u64 0), 139) := by kernel_rfl
theorem pow_cell (w : World) (n : Nat) (h : (Lit.int .u64 n).wf = true) : Cell.okRefB Tryd.prog w 36 (.int .u64 (n : Int)) = true := by
  simp [Lit.wf, IntKind.min, IntKind.max, IntKind.signed, IntKind.bits] at h
  unfold Cell.okRefB
  rw [Tryd.underlying36]
  show Cell.okB Tryd.prog 36 (.int .u64 (n : Int)) = true
  unfold Cell.okB
  rw [Tryd.underlying36]
  simp [IntKind.min, IntKind.max, IntKind.signed, IntKind.bits]
  omega
theorem pow_mem (v : Value) (h : v ∈ powCells) : ∃ n : Nat, v = .int .u64 (n : Int) ∧ (Lit.int .u64 n).wf = true := by
  unfold powCells at h
  obtain ⟨y, hy, hv⟩ := List.mem_flatMap.1 h
  have hw := List.all_eq_true.1 pow_wf _ hy
  simp only [Bool.and_eq_true] at hw
  rcases List.mem_cons.1 hv with rfl | hv
  · exact ⟨_, rfl, hw.1⟩
  · rw [List.mem_singleton.1 hv]
    exact ⟨_, rfl, hw.2⟩
theorem pow_ok (w : World) (C : List Value) (hlen : C.length = 1392) (hC : ∀ v ∈ C, Cell.okRefB Tryd.prog w 36 v = true) : Row.okRefB Tryd.prog w 139 C.toArray = true := by
  unfold Row.okRefB
  rw [pow_types]
  simp only [List.length_replicate, List.size_toArray, hlen]
  rw [Bool.and_eq_true]
  refine ⟨rfl, List.all_eq_true.2 fun i hi => ?_⟩
  have hi2 := List.mem_range.1 hi
  have hi3 : i < C.length := by omega
  have h1 : C.toArray[i]? = some (C[i]'hi3) := by rw [List.getElem?_toArray, List.getElem?_eq_getElem hi3]
  have h2 : (List.replicate 1392 36)[i % 1392]? = some 36 := by rw [List.getElem?_replicate, if_pos (Nat.mod_lt _ (by decide))]
  rw [h1, h2]
  exact hC _ (List.getElem_mem _)
theorem vars_size : Tryd.prog.globals.size = 9 := by kernel_rfl
theorem shortf_heap (os : Os) (args : Array Value) : ((laidWorld os).forCall (fun _ _ => 0) ⟨#[], args, []⟩).heap[5]? = some (.cells powCells.toArray 139 (0, 0)) := by kernel_rfl
/-- What is asked of a variable. -/
noncomputable def varB (w : World) (g : Nat) : Bool :=
    match ((begin Tryd.prog (fun _ _ => 0) default).world.heap[g]?).bind Obj.row? with
    | none => true
    | some (zero, t) =>
      match w.heap[g]? with
      | some (.cells cs t' frozen) => decide (t' = t) && decide (frozen = (0, 0)) && cs.size == zero.size && (!Tryd.prog.buildable t || Row.okRefB Tryd.prog w t cs)
      | _ => false
theorem vars_all (w : World) : w.variablesRefB Tryd.prog = (List.range Tryd.prog.globals.size).all (varB w) := rfl
theorem var_pow (os : Os) (args : Array Value) : varB ((laidWorld os).forCall (fun _ _ => 0) ⟨#[], args, []⟩) 5 = true := by
  unfold varB
  rw [pow_zero, shortf_heap]
  have h := pow_ok ((laidWorld os).forCall (fun _ _ => 0) ⟨#[], args, []⟩) powCells powCells_len fun v hv => by
    obtain ⟨n, rfl, hw⟩ := pow_mem v hv
    exact pow_cell _ n hw
  have hs : (powCells.toArray.size == (Array.replicate 1392 (Value.int .u64 0)).size) = true := by rw [List.size_toArray, powCells_len, Array.size_replicate]; rfl
  show (decide (139 = 139) && decide ((0, 0) = (0, 0)) && powCells.toArray.size == (Array.replicate 1392 (Value.int .u64 0)).size && (!Tryd.prog.buildable 139 || Row.okRefB Tryd.prog _ 139 powCells.toArray)) = true
  rw [h, hs, Bool.or_true, Bool.and_true, Bool.and_true]
  decide
theorem shortf_vars (os : Os) : ((laidWorld os).forCall (fun _ _ => 0) ⟨#[], #[.float .f64 0, .bool false], []⟩).variablesRefB Tryd.prog = true := by
  rw [vars_all, vars_size]
  refine List.all_eq_true.2 fun g hg => ?_
  have hg := List.mem_range.1 hg
  have : g = 0 ∨ g = 1 ∨ g = 2 ∨ g = 3 ∨ g = 4 ∨ g = 5 ∨ g = 6 ∨ g = 7 ∨ g = 8 := by omega
  rcases this with rfl | rfl | rfl | rfl | rfl | rfl | rfl | rfl | rfl
  · show varB ((laidWorld os).forCall (fun _ _ => 0) ⟨#[], #[.float .f64 0, .bool false], []⟩) 0 = true
    kernel_rfl
  · show varB ((laidWorld os).forCall (fun _ _ => 0) ⟨#[], #[.float .f64 0, .bool false], []⟩) 1 = true
    kernel_rfl
  · show varB ((laidWorld os).forCall (fun _ _ => 0) ⟨#[], #[.float .f64 0, .bool false], []⟩) 2 = true
    kernel_rfl
  · show varB ((laidWorld os).forCall (fun _ _ => 0) ⟨#[], #[.float .f64 0, .bool false], []⟩) 3 = true
    kernel_rfl
  · show varB ((laidWorld os).forCall (fun _ _ => 0) ⟨#[], #[.float .f64 0, .bool false], []⟩) 4 = true
    kernel_rfl
  · exact var_pow os _
  · show varB ((laidWorld os).forCall (fun _ _ => 0) ⟨#[], #[.float .f64 0, .bool false], []⟩) 6 = true
    kernel_rfl
  · show varB ((laidWorld os).forCall (fun _ _ => 0) ⟨#[], #[.float .f64 0, .bool false], []⟩) 7 = true
    kernel_rfl
  · show varB ((laidWorld os).forCall (fun _ _ => 0) ⟨#[], #[.float .f64 0, .bool false], []⟩) 8 = true
    kernel_rfl
theorem shortf_rows (os : Os) : ((((laidWorld os).forCall (fun _ _ => 0) ⟨#[], #[.float .f64 0, .bool false], []⟩).heap.toList.drop Tryd.prog.globals.size).take ((begin Tryd.prog (fun _ _ => 0) default).world.heap.size - Tryd.prog.globals.size)) =
    (begin Tryd.prog (fun _ _ => 0) default).world.heap.toList.drop Tryd.prog.globals.size := by kernel_rfl
theorem shortf_ok (os : Os) : Input.okWideB Tryd.prog ((laidWorld os).forCall (fun _ _ => 0) ⟨#[], #[.float .f64 0, .bool false], []⟩) 4 ⟨#[], #[.float .f64 0, .bool false], []⟩ = true := by kernel_rfl
set_option maxRecDepth 100000 in
theorem shortf_lifted (os : Os) (started : os.Started) (H : Type) (enc : TypeId × Value → H) (F : Stop.Interp) :
    ReturnsInHanded {} Tryd.checked os 4 .any ((OpenSpec.ofChange Rows.fnLogFloatShortSpec).preRow enc Tryd.prog Tryd.f4 Rows.fnLogFloatShortRow.domain false Rows.fnLogFloatShortRow.laid) (((OpenSpec.ofChange Rows.fnLogFloatShortSpec).at F).post enc Tryd.prog Tryd.f4 false true false false) := by
  obtain ⟨places, hx⟩ := shortf_reads os enc
  refine returnsInHanded_of_row (C := Tryd.checked) (s := OpenSpec.ofChange Rows.fnLogFloatShortSpec) Tryd.own started (by kernel_rfl) Tryd.func4
    (witness_row_atRef (enc := enc) (C := Tryd.checked) false (laidWorld os) #[.float .f64 0, .bool false] rfl (shortf_vars os) (shortf_rows os) (shortf_ok os)
      (OpenSpec.preRow_of_cond 8 hx (by kernel_rfl) (fun k hk => by cases hk) (by kernel_rfl) (laid_met os _))) ?_
  intro W base args ds gs before hval hW _ _ _ hL _ _
  exact shortf_contract H enc W base args ds gs before hval hW hL

theorem shortf_said : Rows.FnLogFloatShortSaid :=
  OpenClaim.holds_of_cond 4 Tryd.f4 rfl rfl rfl rfl rfl rfl rfl ⟨rfl, rfl, rfl, rfl, rfl⟩ rfl rfl rfl rfl rfl (by kernel_rfl) Tryd.func4 (by kernel_rfl)
    (of_decide_eq_true (by kernel_rfl)) (by unfold Func.isWrapper; rw [if_neg (of_decide_eq_false (by kernel_rfl))]; exact ⟨rfl, rfl⟩)
    (fun os started H enc _ F => by rw [OpenClaim.pre_eq_preRow]; exact shortf_lifted os started H enc F)

theorem shortf_plain (f : FuncId) (fn : Func) (hf : Tryd.pinned.checked.prog.funcNamed "given.example/pub-quill/laws.FnLogFloatShort" = some f) (hfn : Tryd.pinned.checked.prog.funcs[f]? = some fn) :
    true = Tryd.pinned.checked.prog.looks [] ∧ ∀ (j : Nat) t, fn.params[j]? = some t → Tryd.pinned.checked.prog.wantsStandIn t = false := by
  obtain rfl : f = 4 := Option.some.inj ((show Tryd.prog.funcNamed "given.example/pub-quill/laws.FnLogFloatShort" = some 4 by kernel_rfl).symm.trans hf) |>.symm
  obtain rfl : fn = Tryd.f4 := (Option.some.inj (Tryd.func4.symm.trans hfn)).symm
  refine ⟨by kernel_rfl, fun j t ht => ?_⟩
  rw [Tryd.params4] at ht
  have hm := Array.mem_of_getElem? ht
  simp only [List.mem_toArray, List.mem_cons, List.not_mem_nil, or_false] at hm
  rcases hm with rfl | rfl
  · exact (show Tryd.prog.wantsStandIn 22 = false by kernel_rfl)
  · exact (show Tryd.prog.wantsStandIn 4 = false by kernel_rfl)

theorem shortf_card : Rows.FnLogFloatShortCardSaid :=
  Claim7.holds_tied_plain_at .later [] _ _ _ _ shortf_said (fun _ h => by cases h) (by kernel_rfl) (fun _ h => by cases h) fnLogFloatShort_row_tie rfl ⟨rfl, rfl⟩ (by kernel_rfl) rfl shortf_plain (by kernel_rfl)
#print axioms shortf_card
end Go.Proofs.YtnfddblpenninaaDoor
