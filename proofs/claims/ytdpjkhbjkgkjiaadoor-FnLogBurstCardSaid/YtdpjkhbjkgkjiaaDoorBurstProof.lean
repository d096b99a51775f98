/- FnLogBurst: a BurstSampler lets so many events of each period pass, and of the others those that the next sampler does; without one none. For every input (the law's own guards: bursts of at most 20, a period of 1 to 2^40 nanoseconds, a BasicSampler of at most 20 or none, at most 60 ascending times from 1 to 2^50, none just at the end of a period); the listed variables of packages strconv and math/bits start as the program's text lays them (the card ties them). -/
import Derived.Test.YtdpjkhbjkgkjiaaDoorBurD
import Derived.Test.YtdpjkhbjkgkjiaaDoorErrs
namespace Go.Proofs.YtdpjkhbjkgkjiaaDoor
open Go.ChangeShapes Go.WideShapes Go.ChangeAt Go.RowKit

theorem Tryd.cells2 : Tryd.prog.cellsOf 2 = 1 := by kernel_rfl

theorem burst_some (b p nx : Int) (tb o n c : Nat) (ts : List Int) (hb : 0 ≤ b) (hx : 0 ≤ nx) (w : World) (hE : Errs w) (hn : 0 < n) (hlen : ts.length ≤ n) (hT : Times w w.heap.size tb o n ts) :
    Calls Tryd.prog 4 #[.int .u32 b, .int .i64 p, .int .u32 nx, .slice (some ⟨tb, o, none⟩) n c] w fun e w' => e = .returned (.bool true) ∧ Below w.heap.size w w' := by
  by_cases hg : b < 1 ∨ 20 < b ∨ p < 1 ∨ 1099511627776 < p ∨ 20 < nx ∨ 60 < n
  · exact burst_out b p nx _ n c hb hx hg w
  · by_cases hall : ∀ j, j < n → 1 ≤ ts.getD j 0 ∧ ts.getD j 0 ≤ 1125899906842624
    · refine burst_walk b p nx tb o n c ts (by omega) (by omega) (by omega) (by omega) hx (by omega) hn (by omega) (fun i => ?_) (fun i hi => (hall i hi).1) w hT hE
      rcases Nat.lt_or_ge i n with h | h
      · have := hall i h
        omega
      · rw [List.getD_eq_getElem?_getD, List.getElem?_eq_none (by omega)]
        decide
    · simp only [Classical.not_forall] at hall
      obtain ⟨j, hj, hbad⟩ := hall
      exact burst_wild b p nx tb o n c ts (by omega) (by omega) (by omega) (by omega) hx (by omega) (by omega) j hj (by omega) w hT

theorem burst_nil (b p nx : Int) (A : Option Addr) (c : Nat) (hb : 0 ≤ b) (hx : 0 ≤ nx) (w : World) (hE : Errs w) :
    Calls Tryd.prog 4 #[.int .u32 b, .int .i64 p, .int .u32 nx, .slice A 0 c] w fun e w' => e = .returned (.bool true) ∧ Below w.heap.size w w' := by
  by_cases hg : b < 1 ∨ 20 < b ∨ p < 1 ∨ 1099511627776 < p ∨ 20 < nx ∨ 60 < 0
  · exact burst_out b p nx _ 0 c hb hx hg w
  · exact burst_none b p nx A c (by omega) (by omega) (by omega) (by omega) hx (by omega) w hE

set_option maxRecDepth 100000 in
theorem burst_contract (H : Type) (enc : TypeId × Value → H) (W : World) (base : Nat) (args : Array Value) (ds gs : List (DataW H)) (before : List MemPlace)
    (hval : ∀ (j : Nat) t v, Tryd.f4.params[j]? = some t → args[j]? = some v → Value.okWide Tryd.prog W .any base t v)
    (hW : DataW.Whole enc Tryd.prog Tryd.f4.params.toList Rows.fnLogBurstSpec.vars false W args.toList ds gs before) (hL : laidMetH Tryd.prog laidAll W) :
    Calls Tryd.prog 4 args W fun e W' => ∃ v, e = .returned v ∧ Rows.fnLogBurstSpec.post enc Tryd.prog Tryd.f4 false true false false W args v W' := by
  have hW' := hW
  obtain ⟨p, q, hA0, hV, rfl, hfz, hnd⟩ := hW
  have hA : DataW.TrodAll enc Tryd.prog W 0 (fun _ => true) true Tryd.f4.params.toList args.toList ds p := hA0
  have hAll := hA
  rw [Tryd.params4] at hA hval
  obtain ⟨v0, v1, v2, v3, d0, d1, d2, d3, p0, p1, p2, p3, rfl, rfl, rfl, h0, h1, h2, h3⟩ := trodAll_four hA
  obtain ⟨rfl, rfl⟩ := trodVars_none hV
  obtain ⟨b, rfl, rfl, rfl, w0⟩ := open_int Tryd.underlying22 (hval 0 22 v0 rfl rfl) h0
  obtain ⟨per, rfl, rfl, rfl, w1⟩ := open_int Tryd.underlying2 (hval 1 2 v1 rfl rfl) h1
  obtain ⟨nx, rfl, rfl, rfl, w2⟩ := open_int Tryd.underlying22 (hval 2 22 v2 rfl rfl) h2
  have b0 := bounds_u32 w0
  have b2 := bounds_u32 w2
  obtain ⟨a0, len, cap, rfl⟩ := okWide_slice Tryd.underlying31 (hval 3 31 v3 rfl rfl)
  have hwalk : Calls Tryd.prog 4 #[.int .u32 b, .int .i64 per, .int .u32 nx, .slice a0 len cap] W fun e w' => e = .returned (.bool true) ∧ Below W.heap.size W w' := by
    obtain ⟨fuel, hf⟩ := h3
    rcases open_ints Tryd.underlying31 Tryd.underlying2 Tryd.cells2 hf with ⟨hcs, _⟩ | ⟨a, len', cap', zs, hcs, _, hl, hm, hz, hx, hcell, hwz⟩
    · simp only [Value.cells, List.cons.injEq, Value.slice.injEq, and_true] at hcs
      obtain ⟨rfl, rfl, rfl⟩ := hcs
      exact burst_nil b per nx none 0 b0.1 b2.1 W (errs_of hL)
    · simp only [Value.cells, List.cons.injEq, Value.slice.injEq, and_true] at hcs
      obtain ⟨rfl, rfl, rfl⟩ := hcs
      rcases Nat.eq_zero_or_pos len with rfl | hpos
      · exact burst_nil b per nx _ cap b0.1 b2.1 W (errs_of hL)
      · simp only [if_true] at hz
        obtain ⟨tb, o, rfl, hc⟩ := ints_at hcell (by omega)
        have hlt : tb < W.heap.size := World.block_lt_of_cell? W ⟨tb, o + 0, none⟩ (hc 0 (by omega))
        refine burst_some b per nx tb o len cap (zs.take len) b0.1 b2.1 W (errs_of hL) hpos (by simp; omega) ⟨hlt, fun i hi => ?_⟩
        rw [hc i (by omega)]
        congr 2
        rw [List.getD_eq_getElem?_getD, List.getD_eq_getElem?_getD, List.getElem?_take_of_lt hi]
  refine hwalk.mono fun e W' ⟨he, hb⟩ => ?_
  subst he
  refine ⟨_, rfl, post_below hW' (fun _ _ _ => trodAll_mk1 (shut_bool Tryd.underlying4 _)) (fun sp hsp => args_keep Tryd.laidOut hb (by rw [Tryd.params4]; decide +kernel) hAll (fun p hp => hW'.lt p (by simpa using hp)) (fun p hp => hsp p (by simpa using hp))) (fun _ _ => rfl) (by simp) hb⟩

theorem burst_reads (os : Os) {H : Type} (enc : TypeId × Value → H) : ∃ places, DataW.whole enc Tryd.prog ((laidWorld os).forCall (fun _ _ => 0) ⟨#[], #[.int .u32 0, .int .i64 0, .int .u32 0, .slice none 0 0], []⟩).memory Tryd.f4.params.toList Rows.fnLogBurstSpec.vars false #[Value.int .u32 0, .int .i64 0, .int .u32 0, .slice none 0 0].toList 8 = some ([.lit (.int .u32 0), .lit (.int .i64 0), .lit (.int .u32 0), .nil], [], places) :=
  ⟨[], by kernel_rfl⟩

set_option maxRecDepth 100000 in
theorem burst_lifted (os : Os) (started : os.Started) (H : Type) (enc : TypeId × Value → H) (F : Stop.Interp) :
    ReturnsInHanded {} Tryd.checked os 4 .any ((OpenSpec.ofChange Rows.fnLogBurstSpec).preRow enc Tryd.prog Tryd.f4 Rows.fnLogBurstRow.domain false Rows.fnLogBurstRow.laid) (((OpenSpec.ofChange Rows.fnLogBurstSpec).at F).post enc Tryd.prog Tryd.f4 false true false false) := by
  obtain ⟨places, hx⟩ := burst_reads os enc
  refine returnsInHanded_of_row (C := Tryd.checked) (s := OpenSpec.ofChange Rows.fnLogBurstSpec) Tryd.own started (by kernel_rfl) Tryd.func4
    (witness_row_at (enc := enc) (C := Tryd.checked) false (laidWorld os) #[.int .u32 0, .int .i64 0, .int .u32 0, .slice none 0 0] rfl (by kernel_rfl) (by kernel_rfl) (by kernel_rfl)
      (OpenSpec.preRow_of_cond 8 hx (by kernel_rfl) (fun k hk => by cases hk) (by kernel_rfl) (laid_met os _))) ?_
  intro W base args ds gs before hval hW _ _ _ hL _ _
  exact burst_contract H enc W base args ds gs before hval hW hL

theorem burst_said : Rows.FnLogBurstSaid :=
  OpenClaim.holds_of_cond 4 Tryd.f4 rfl rfl rfl rfl rfl rfl rfl ⟨rfl, rfl, rfl, rfl, rfl⟩ rfl rfl rfl rfl rfl (by kernel_rfl) Tryd.func4 (by kernel_rfl)
    (of_decide_eq_true (by kernel_rfl)) (by unfold Func.isWrapper; rw [if_neg (of_decide_eq_false (by kernel_rfl))]; exact ⟨rfl, rfl⟩)
    (fun os started H enc _ F => by rw [OpenClaim.pre_eq_preRow]; exact burst_lifted os started H enc F)

theorem burst_plain (f : FuncId) (fn : Func) (hf : Tryd.pinned.checked.prog.funcNamed "given.example/pub-quill/laws.FnLogBurst" = some f) (hfn : Tryd.pinned.checked.prog.funcs[f]? = some fn) :
    true = Tryd.pinned.checked.prog.looks [] ∧ ∀ (j : Nat) t, fn.params[j]? = some t → Tryd.pinned.checked.prog.wantsStandIn t = false := by
  obtain rfl : f = 4 := Option.some.inj ((show Tryd.prog.funcNamed "given.example/pub-quill/laws.FnLogBurst" = some 4 by kernel_rfl).symm.trans hf) |>.symm
  obtain rfl : fn = Tryd.f4 := (Option.some.inj (Tryd.func4.symm.trans hfn)).symm
  refine ⟨by kernel_rfl, fun j t ht => ?_⟩
  rw [Tryd.params4] at ht
  have hm := Array.mem_of_getElem? ht
  simp only [List.mem_toArray, List.mem_cons, List.not_mem_nil, or_false] at hm
  rcases hm with rfl | rfl | rfl | rfl
  · exact (show Tryd.prog.wantsStandIn 22 = false by kernel_rfl)
  · exact (show Tryd.prog.wantsStandIn 2 = false by kernel_rfl)
  · exact (show Tryd.prog.wantsStandIn 22 = false by kernel_rfl)
  · exact (show Tryd.prog.wantsStandIn 31 = false by kernel_rfl)

theorem burst_card : Rows.FnLogBurstCardSaid :=
  Claim7.holds_tied_plain_at .later [] _ _ _ _ burst_said (fun _ h => by cases h) (by kernel_rfl) (fun _ h => by cases h) fnLogBurst_row_tie rfl ⟨rfl, rfl⟩ (by kernel_rfl) rfl burst_plain (by kernel_rfl)
#print axioms burst_card
end Go.Proofs.YtdpjkhbjkgkjiaaDoor
