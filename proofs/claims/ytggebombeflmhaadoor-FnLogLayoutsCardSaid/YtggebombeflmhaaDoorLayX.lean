/- What the row's list of variables gives: the two errors of package strconv, the tables of package time. -/
import Derived.Test.YtggebombeflmhaaDoorCards
import Derived.Test.YtggebombeflmhaaDoorTie
import Derived.Test.YtggebombeflmhaaDoorLevB
import Derived.ProofKit
import Derived.OpenShut
import Derived.Deep.DeepHandedRow
import Derived.Lib.LaidTab
import Derived.Stop.LaidErr
import Derived.Test.YtggebombeflmhaaDoorLayH
import Derived.Deep.Strs
import Derived.Lib.LaidU8
import Derived.ChangeBears2
namespace Go.Proofs.YtggebombeflmhaaDoor
open Go.ChangeShapes Go.WideShapes Go.ChangeAt Go.RowKit

theorem Tryd.own : ownKnob Tryd.prog.godebug = none := by kernel_rfl
theorem gSynT : (Tryd.prog.globals[3]?).map (·.type) = some 49 := by kernel_rfl
theorem gRngT : (Tryd.prog.globals[4]?).map (·.type) = some 49 := by kernel_rfl
theorem gSyn0 : Tryd.prog.globalNamed "strconv.ErrSyntax" = some 3 := by kernel_rfl
theorem gRng1 : Tryd.prog.globalNamed "strconv.ErrRange" = some 4 := by kernel_rfl
theorem starErr : "*" ++ "errors.errorString" = "*errors.errorString" := by decide
theorem rowErr (u : TypeId) (h : Tryd.prog.typeName? 3 u = some "*errors.errorString") : u = 80 :=
  typeName_ptr_named (nm := "errors.errorString") (by rw [starErr]; kernel_rfl) (by kernel_rfl) (by decide) u (by rw [starErr]; exact h)
theorem cells82 : Tryd.prog.cellsOf 82 = 1 := by kernel_rfl
theorem cells9 : Tryd.prog.cellsOf 9 = 1 := by kernel_rfl

def laidAll : List (String × DataW Unit) := [("math/bits.deBruijn32tab", Rows.laid_math_bits_deBruijn32tab), ("math/bits.deBruijn64tab", Rows.laid_math_bits_deBruijn64tab), ("given.example/pub-quill/pub/ztime.std0x", Rows.laid_given_example_pub_quill_pub_ztime_std0x), ("given.example/pub-quill/pub/ztime.longDayNames", Rows.laid_given_example_pub_quill_pub_ztime_longDayNames), ("given.example/pub-quill/pub/ztime.longMonthNames", Rows.laid_given_example_pub_quill_pub_ztime_longMonthNames), ("internal/strconv.uint64pow10", Rows.laid_internal_strconv_uint64pow10), ("strconv.ErrRange", Rows.laid_strconv_ErrRange), ("strconv.ErrSyntax", Rows.laid_strconv_ErrSyntax)]

theorem errs_of {W : World} (h : laidMetH Tryd.prog laidAll W) : Errs W := by
  have h0 : laidMet Tryd.prog laidAll W := h
  unfold laidAll at h0
  have hR := h0.tail.tail.tail.tail.tail.tail
  obtain ⟨a, _, h1, _⟩ := laid_sentinel hR gRng1 gRngT Tryd.underlying49 rowErr Tryd.underlying80 Tryd.underlying82 rfl rfl Tryd.underlying9 cells82 cells9
  obtain ⟨b, _, h2, _⟩ := laid_sentinel hR.tail gSyn0 gSynT Tryd.underlying49 rowErr Tryd.underlying80 Tryd.underlying82 rfl rfl Tryd.underlying9 cells82 cells9
  exact ⟨⟨_, _, h2⟩, ⟨_, _, h1⟩⟩


theorem gStd : Tryd.prog.globalNamed "given.example/pub-quill/pub/ztime.std0x" = some 0 := by kernel_rfl
theorem gStdT : (Tryd.prog.globals[0]?).map (·.type) = some 102 := by kernel_rfl
theorem gMon : Tryd.prog.globalNamed "given.example/pub-quill/pub/ztime.longMonthNames" = some 1 := by kernel_rfl
theorem gMonT : (Tryd.prog.globals[1]?).map (·.type) = some 23 := by kernel_rfl
theorem gDay : Tryd.prog.globalNamed "given.example/pub-quill/pub/ztime.longDayNames" = some 2 := by kernel_rfl
theorem gDayT : (Tryd.prog.globals[2]?).map (·.type) = some 23 := by kernel_rfl
theorem cells102 : Tryd.prog.cellsOf 102 = 6 := by kernel_rfl
theorem cells3 : Tryd.prog.cellsOf 3 = 1 := by kernel_rfl
theorem cell_lt {W : World} {a : Addr} {v : Value} (h : W.cell? a = some v) : a.block < W.heap.size := by
  rcases Nat.lt_or_ge a.block W.heap.size with hlt | hge
  · exact hlt
  · unfold World.cell? at h
    rw [Array.getElem?_eq_none hge] at h
    cases a with
    | mk b o sp => cases sp <;> cases h
theorem names_of {W : World} {nm : String} {g n : Nat} {f : Nat → List UInt8} {fuel : Nat} {cs : Array Value} {d : DataW Unit} {p : List MemPlace} (hg : Tryd.prog.globalNamed nm = some g) (hv : W.var? Tryd.prog nm = some cs)
    (ht : DataW.trod (fun _ => ()) Tryd.prog W 0 (fun _ => true) false fuel 23 cs.toList = some (d, p)) (hd : d = .slice ((List.range n).map fun i => .lit (.string (f i))) []) (hn : 0 < n) : Names W g n f := by
  rcases Go.Deep.open_strs Tryd.underlying23 Tryd.underlying9 cells9 ht with ⟨_, hx⟩ | ⟨a, len, cap, m, Sx, hcs, _, hlc, _, hm, hx, hcell⟩
  · rw [hd] at hx
    cases hx
  · rw [hd] at hx
    injection hx with hx1 hx2
    injection hx1 with hx3 hx4
    have hlen : n = len := by simpa using congrArg List.length hx3
    subst hlen
    have hmn : n ≤ m := by rw [hm]; split <;> omega
    have hS : ∀ i, i < n → Sx i = ⟨(f i).toArray⟩ := fun i hi => by
      have := congrArg (·[i]?) hx3
      simp [hi] at this
      rw [this]
    obtain ⟨b, off, sp⟩ := a
    have hsp : sp = none := by
      have h0 := (hcell 0 (by omega)).1
      simpa [Addr.add] using World.cell?_spot h0
    subst hsp
    have hc : ∀ i, i < n → W.cell? ⟨b, off + i, none⟩ = some (.string ⟨(f i).toArray⟩) := fun i hi => by
      have h0 := (hcell i (by omega)).1
      rw [hS i hi, Go.WideShapes.add_plain] at h0
      exact h0
    have hv0 := var?_cell hg hv 0
    have e0 : cs[0]? = some (.slice (some ⟨b, off, none⟩) n cap) := by
      have : cs.toList[0]? = some (.slice (some ⟨b, off, none⟩) n cap) := by rw [hcs]; rfl
      simpa using this
    rw [e0] at hv0
    exact ⟨b, off, cap, hv0, cell_lt hv0, cell_lt (hc 0 hn), hlc, hc⟩
theorem tabs_of {W : World} (h : laidMetH Tryd.prog laidAll W) : Tabs W := by
  have h0 : laidMet Tryd.prog laidAll W := h
  obtain ⟨g, t, cs, fuel, p, hg, ht, hv, hr⟩ := Lib.laidMet.reads h0 (n := "given.example/pub-quill/pub/ztime.std0x") (d := Rows.laid_given_example_pub_quill_pub_ztime_std0x) (by simp [laidAll])
  obtain rfl := Option.some.inj (gStd.symm.trans hg)
  obtain rfl := Option.some.inj (gStdT.symm.trans ht)
  have hcs := Lib.cells_of_tab (k := .i64) (zs := [260, 265, 1038, 1040, 1042, 276]) Tryd.underlying102 Tryd.underlying3 cells3 cells102 hr
  obtain ⟨g1, t1, cs1, f1, p1, hg1, ht1, hv1, hr1⟩ := Lib.laidMet.reads h0 (n := "given.example/pub-quill/pub/ztime.longMonthNames") (d := Rows.laid_given_example_pub_quill_pub_ztime_longMonthNames) (by simp [laidAll])
  obtain rfl := Option.some.inj (gMon.symm.trans hg1)
  obtain rfl := Option.some.inj (gMonT.symm.trans ht1)
  obtain ⟨g2, t2, cs2, f2, p2, hg2, ht2, hv2, hr2⟩ := Lib.laidMet.reads h0 (n := "given.example/pub-quill/pub/ztime.longDayNames") (d := Rows.laid_given_example_pub_quill_pub_ztime_longDayNames) (by simp [laidAll])
  obtain rfl := Option.some.inj (gDay.symm.trans hg2)
  obtain rfl := Option.some.inj (gDayT.symm.trans ht2)
  have hc : ∀ i, W.cell? ⟨0, i, none⟩ = cs.toList[i]? := fun i => by
    rw [var?_cell gStd hv i]
    simp
  rw [hcs] at hc
  refine ⟨cell_lt (a := ⟨0, 0, none⟩) (hc 0), fun i hi => ?_, names_of gMon hv1 hr1 rfl (by decide), names_of gDay hv2 hr2 rfl (by decide)⟩
  rw [hc i]
  rcases (by omega : i = 0 ∨ i = 1 ∨ i = 2 ∨ i = 3 ∨ i = 4 ∨ i = 5) with rfl | rfl | rfl | rfl | rfl | rfl <;> rfl

/-- WHAT A ROW SAYS BEHIND THE CALL, where what was there is as it was. -/
theorem post_below {H : Type} {enc : TypeId × Value → H} {P : Program} {f : Func} {s : ChangeSpec} {apart fresh handsOn : Bool} {W W' : World} {args : Array Value} {v : Value} {ds gs : List (DataW H)} {before pa pv : List MemPlace}
    (hW : DataW.Whole enc P f.params.toList s.vars apart W args.toList ds gs before)
    (hres : ∀ (b : Nat) (sp : Nat → Bool) (hd : Bool), DataW.TrodAll enc P W' b sp hd f.resultTypes.toList (v.resultList f.resultTypes.size) (s.fn H (ds ++ gs)).results [])
    (hargs : ∀ sp : Nat → Bool, (∀ p ∈ before, sp p.block = true) → DataW.TrodAll enc P W' 0 sp true f.params.toList args.toList (s.fn H (ds ++ gs)).args pa)
    (hvars : ∀ sp : Nat → Bool, (∀ p ∈ before, sp p.block = true) → DataW.TrodVars enc P W' sp s.vars (s.fn H (ds ++ gs)).vars pv)
    (hps : before = pa ++ pv) (hb : Below W.heap.size W W') :
    s.post enc P f apart fresh handsOn false W args v W' := by
  have hold : ∀ p ∈ before, (fun b => decide (b < W.heap.size)) p.block = true := fun p hp => by simpa using hW.lt p hp
  refine ⟨ds, gs, before, [], pa, pv, hW, hres _ _ _, hargs _ hold, hvars _ hold, World.keptBut_mono (fun p hp => ⟨hp, ?_⟩) (hb.frame (· ∈ before)), fun h => by cases h⟩
  rw [hps, List.mem_append] at hp
  exact Or.inr hp

/-- The arguments read again behind the call, where what was there is as it was. -/
theorem args_keep {H : Type} {enc : TypeId × Value → H} {P : Program} (hl : laidOutB P = true) {W W' : World} (hb : Below W.heap.size W W') {sp : Nat → Bool} : ∀ {ts : List TypeId} {vs : List Value} {ds : List (DataW H)} {ps : List MemPlace},
    (∀ t ∈ ts, P.readableRec t = true ∧ t < P.types.size) → DataW.TrodAll enc P W 0 (fun _ => true) true ts vs ds ps → (∀ p ∈ ps, p.block < W.heap.size) → (∀ p ∈ ps, sp p.block = true) → DataW.TrodAll enc P W' 0 sp true ts vs ds ps
  | [], vs, ds, ps, _, h, _, _ => by
    obtain ⟨rfl, rfl, rfl⟩ := trodAll_nil h
    exact trodAll_mk0
  | t :: ts, vs, ds, ps, ht, h, hlt, hsp => by
    obtain ⟨v, vs', d, ds', p, q, rfl, rfl, rfl, h0, r0⟩ := trodAll_cons h
    have h1 := ht t (by simp)
    exact trodAll_cons_mk (WideElems.Trod_stays hl h1.1 h1.2 h0 (fun x hx => hb.same (hlt x (by simp [hx]))) (fun x hx => hsp x (by simp [hx])))
      (args_keep hl hb (fun t' h' => ht t' (by simp [h'])) r0 (fun x hx => hlt x (by simp [hx])) (fun x hx => hsp x (by simp [hx])))
theorem Tryd.laidOut : laidOutB Tryd.prog = true := by kernel_rfl

end Go.Proofs.YtggebombeflmhaaDoor
