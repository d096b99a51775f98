/- FnLogMultiJoins: what comes to writers of some lines and more is what comes to them of the ones and of the others. For every input (the law's own guards: at most 40 lines of at most 100 bytes, 6 writers of levels from -1 to 7); the listed variables of packages strconv and math/bits start as the program's text lays them (the card ties them). -/
import Derived.Test.YtiboiagimcgjkaaDoorMulO
namespace Go.Proofs.YtiboiagimcgjkaaDoor
open Go.ChangeShapes Go.WideShapes Go.ChangeAt Go.RowKit

/-- The levels' row. -/
theorem open_levels {H : Type} {enc : TypeId × Value → H} {w : World} {base : Nat} {spare : Nat → Bool} {held : Bool} {fuel : Nat} {cs : List Value} {x : DataW H × List MemPlace} (h : DataW.trod enc Tryd.prog w base spare held fuel 22 cs = some x) :
    ∃ (lp : Option Addr) (n c : Nat) (lvs : Nat → Int), cs = [.slice lp n c] ∧ LevAt w lp n lvs := by
  rcases open_ints Tryd.underlying22 Tryd.underlying3 Tryd.cellsOf3 h with ⟨rfl, _⟩ | ⟨a, len, cap, zs, rfl, _, hl, hm, hz, hx, hcell, hwz⟩
  · exact ⟨none, 0, 0, fun _ => 0, rfl, fun i hi => absurd hi (by omega)⟩
  · have hlz : len ≤ zs.length := by
      rw [hz]
      split
      · exact hl
      · exact Nat.le_refl _
    rcases Nat.eq_zero_or_pos len with rfl | hpos
    · exact ⟨some a, 0, cap, fun _ => 0, rfl, fun i hi => absurd hi (by omega)⟩
    · obtain ⟨b, o, rfl, hc⟩ := ints_at hcell (by omega)
      exact ⟨some ⟨b, o, none⟩, len, cap, fun i => zs.getD i 0, rfl, fun i hi => ⟨b, o, rfl, cell_lt (hc i (by omega)), hc i (by omega)⟩⟩

set_option maxRecDepth 100000 in
theorem multi_contract (H : Type) (enc : TypeId × Value → H) (W : World) (base : Nat) (args : Array Value) (ds gs : List (DataW H)) (before : List MemPlace)
    (hval : ∀ (j : Nat) t v, Tryd.f3.params[j]? = some t → args[j]? = some v → Value.okWide Tryd.prog W .any base t v)
    (hW : DataW.Whole enc Tryd.prog Tryd.f3.params.toList Rows.fnLogMultiJoinsSpec.vars false W args.toList ds gs before) (hL : laidMetH Tryd.prog laidAll W) :
    Calls Tryd.prog 3 args W fun e W' => ∃ v, e = .returned v ∧ Rows.fnLogMultiJoinsSpec.post enc Tryd.prog Tryd.f3 false true false false W args v W' := by
  have hW' := hW
  obtain ⟨p, q, hA0, hV, rfl, hfz, hnd⟩ := hW
  have hA : DataW.TrodAll enc Tryd.prog W 0 (fun _ => true) true Tryd.f3.params.toList args.toList ds p := hA0
  have hAll := hA
  rw [Tryd.params3] at hA hval
  obtain ⟨v0, v1, v2, d0, d1, d2, p0, p1, p2, rfl, rfl, rfl, h0, h1, h2⟩ := trodAll_three hA
  obtain ⟨rfl, rfl⟩ := trodVars_none hV
  obtain ⟨a0, n0, c0, rfl⟩ := okWide_slice Tryd.underlying22 (hval 0 22 v0 rfl rfl)
  obtain ⟨a1, n1, c1, rfl⟩ := okWide_slice Tryd.underlying23 (hval 1 23 v1 rfl rfl)
  obtain ⟨a2, n2, c2, rfl⟩ := okWide_slice Tryd.underlying23 (hval 2 23 v2 rfl rfl)
  have hwalk : Calls Tryd.prog 3 #[.slice a0 n0 c0, .slice a1 n1 c1, .slice a2 n2 c2] W fun e w' => e = .returned (.bool true) ∧ Below W.heap.size W w' := by
    obtain ⟨f0, t0⟩ := h0
    obtain ⟨f1, t1⟩ := h1
    obtain ⟨f2, t2⟩ := h2
    obtain ⟨lp, n, lc, lvs, e0, hl⟩ := open_levels t0
    obtain ⟨ap, ma, ca, a, e1, ha, hna⟩ := open_ops t1
    obtain ⟨bp, mb, cb, b, e2, hb, hnb⟩ := open_ops t2
    simp only [Value.cells, List.cons.injEq, Value.slice.injEq, and_true] at e0 e1 e2
    obtain ⟨rfl, rfl, rfl⟩ := e0
    obtain ⟨rfl, rfl, rfl⟩ := e1
    obtain ⟨rfl, rfl, rfl⟩ := e2
    exact multijoins_any _ _ _ _ _ _ _ _ _ lvs a b W ha hb hna hnb hl (errs_of hL)
  refine hwalk.mono fun e W' ⟨he, hb⟩ => ?_
  subst he
  refine ⟨_, rfl, post_below hW' (fun _ _ _ => trodAll_mk1 (shut_bool Tryd.underlying4 _)) (fun sp hsp => args_keep Tryd.laidOut hb (by rw [Tryd.params3]; decide +kernel) hAll (fun p hp => hW'.lt p (by simpa using hp)) (fun p hp => hsp p (by simpa using hp))) (fun _ _ => rfl) (by simp) hb⟩

theorem multi_reads (os : Os) {H : Type} (enc : TypeId × Value → H) : ∃ places, DataW.whole enc Tryd.prog ((laidWorld os).forCall (fun _ _ => 0) ⟨#[], #[.slice none 0 0, .slice none 0 0, .slice none 0 0], []⟩).memory Tryd.f3.params.toList Rows.fnLogMultiJoinsSpec.vars false #[Value.slice none 0 0, .slice none 0 0, .slice none 0 0].toList 8 = some ([.nil, .nil, .nil], [], places) :=
  ⟨[], by kernel_rfl⟩

set_option maxRecDepth 100000 in
theorem multi_lifted (os : Os) (started : os.Started) (H : Type) (enc : TypeId × Value → H) (F : Stop.Interp) :
    ReturnsInHanded {} Tryd.checked os 3 .any ((OpenSpec.ofChange Rows.fnLogMultiJoinsSpec).preRow enc Tryd.prog Tryd.f3 Rows.fnLogMultiJoinsRow.domain false Rows.fnLogMultiJoinsRow.laid) (((OpenSpec.ofChange Rows.fnLogMultiJoinsSpec).at F).post enc Tryd.prog Tryd.f3 false true false false) := by
  obtain ⟨places, hx⟩ := multi_reads os enc
  refine returnsInHanded_of_row (C := Tryd.checked) (s := OpenSpec.ofChange Rows.fnLogMultiJoinsSpec) Tryd.own started (by kernel_rfl) Tryd.func3
    (witness_row_at (enc := enc) (C := Tryd.checked) false (laidWorld os) #[.slice none 0 0, .slice none 0 0, .slice none 0 0] rfl (by kernel_rfl) (by kernel_rfl) (by kernel_rfl)
      (OpenSpec.preRow_of_cond 8 hx (by kernel_rfl) (fun k hk => by cases hk) (by kernel_rfl) (laid_met os _))) ?_
  intro W base args ds gs before hval hW _ _ _ hL _ _
  exact multi_contract H enc W base args ds gs before hval hW hL

theorem multi_said : Rows.FnLogMultiJoinsSaid :=
  OpenClaim.holds_of_cond 3 Tryd.f3 rfl rfl rfl rfl rfl rfl rfl ⟨rfl, rfl, rfl, rfl, rfl⟩ rfl rfl rfl rfl rfl (by kernel_rfl) Tryd.func3 (by kernel_rfl)
    (of_decide_eq_true (by kernel_rfl)) (by unfold Func.isWrapper; rw [if_neg (of_decide_eq_false (by kernel_rfl))]; exact ⟨rfl, rfl⟩)
    (fun os started H enc _ F => by rw [OpenClaim.pre_eq_preRow]; exact multi_lifted os started H enc F)

theorem multi_plain (f : FuncId) (fn : Func) (hf : Tryd.pinned.checked.prog.funcNamed "given.example/pub-quill/laws.FnLogMultiJoins" = some f) (hfn : Tryd.pinned.checked.prog.funcs[f]? = some fn) :
    true = Tryd.pinned.checked.prog.looks [] ∧ ∀ (j : Nat) t, fn.params[j]? = some t → Tryd.pinned.checked.prog.wantsStandIn t = false := by
  obtain rfl : f = 3 := Option.some.inj ((show Tryd.prog.funcNamed "given.example/pub-quill/laws.FnLogMultiJoins" = some 3 by kernel_rfl).symm.trans hf) |>.symm
  obtain rfl : fn = Tryd.f3 := (Option.some.inj (Tryd.func3.symm.trans hfn)).symm
  refine ⟨by kernel_rfl, fun j t ht => ?_⟩
  rw [Tryd.params3] at ht
  have hm := Array.mem_of_getElem? ht
  simp only [List.mem_toArray, List.mem_cons, List.not_mem_nil, or_false] at hm
  rcases hm with rfl | rfl | rfl
  · exact (show Tryd.prog.wantsStandIn 22 = false by kernel_rfl)
  · exact (show Tryd.prog.wantsStandIn 23 = false by kernel_rfl)
  · exact (show Tryd.prog.wantsStandIn 23 = false by kernel_rfl)

theorem multi_card : Rows.FnLogMultiJoinsCardSaid :=
  Claim7.holds_tied_plain_at .later [] _ _ _ _ multi_said (fun _ h => by cases h) (by kernel_rfl) (fun _ h => by cases h) fnLogMultiJoins_row_tie rfl ⟨rfl, rfl⟩ (by kernel_rfl) rfl multi_plain (by kernel_rfl)
#print axioms multi_card
end Go.Proofs.YtiboiagimcgjkaaDoor
