/- What the row's list of variables gives: the two errors of package strconv are there. -/
import Derived.Test.YtnfddblpenninaaDoorCards
import Derived.Test.YtnfddblpenninaaDoorTie
import Derived.Test.YtnfddblpenninaaDoorMgK
import Derived.Lib.LaidU8
import Derived.Lib.LaidCaseMet
import Derived.Deep.Slices
import Derived.ProofKit
import Derived.OpenShut
import Derived.Deep.DeepHandedRow
import Derived.Lib.LaidTab
import Derived.Stop.LaidErr
namespace Go.Proofs.YtnfddblpenninaaDoor
open Go.ChangeShapes Go.WideShapes Go.ChangeAt Go.RowKit

theorem Tryd.own : ownKnob Tryd.prog.godebug = none := by kernel_rfl
theorem gSynT : (Tryd.prog.globals[2]?).map (·.type) = some 63 := by kernel_rfl
theorem gRngT : (Tryd.prog.globals[3]?).map (·.type) = some 63 := by kernel_rfl
theorem gSyn0 : Tryd.prog.globalNamed "strconv.ErrSyntax" = some 2 := by kernel_rfl
theorem gRng1 : Tryd.prog.globalNamed "strconv.ErrRange" = some 3 := by kernel_rfl
theorem starErr : "*" ++ "errors.errorString" = "*errors.errorString" := by decide
theorem rowErr (u : TypeId) (h : Tryd.prog.typeName? 3 u = some "*errors.errorString") : u = 77 :=
  typeName_ptr_named (nm := "errors.errorString") (by rw [starErr]; kernel_rfl) (by kernel_rfl) (by decide) u (by rw [starErr]; exact h)
theorem cells79 : Tryd.prog.cellsOf 79 = 1 := by kernel_rfl
theorem cells9 : Tryd.prog.cellsOf 9 = 1 := by kernel_rfl

def laidAll : List (String × DataW Unit) := [("math/bits.deBruijn32tab", Rows.laid_math_bits_deBruijn32tab), ("math/bits.deBruijn64tab", Rows.laid_math_bits_deBruijn64tab), ("internal/strconv.optimize", Rows.laid_internal_strconv_optimize), ("internal/strconv.uint64pow10", Rows.laid_internal_strconv_uint64pow10), ("strconv.ErrRange", Rows.laid_strconv_ErrRange), ("strconv.ErrSyntax", Rows.laid_strconv_ErrSyntax), ("internal/strconv.leftcheats", Rows.laid_internal_strconv_leftcheats), ("internal/strconv.pow10Tab", Rows.laid_internal_strconv_pow10Tab)]

theorem errs_of {W : World} (h : laidMetH Tryd.prog laidAll W) : Errs W := by
  have h0 : laidMet Tryd.prog laidAll W := h
  unfold laidAll at h0
  have hR := h0.tail.tail.tail.tail
  obtain ⟨a, _, h1, _⟩ := laid_sentinel hR gRng1 gRngT Tryd.underlying63 rowErr Tryd.underlying77 Tryd.underlying79 rfl rfl Tryd.underlying9 cells79 cells9
  obtain ⟨b, _, h2, _⟩ := laid_sentinel hR.tail gSyn0 gSynT Tryd.underlying63 rowErr Tryd.underlying77 Tryd.underlying79 rfl rfl Tryd.underlying9 cells79 cells9
  exact ⟨⟨_, _, h2⟩, ⟨_, _, h1⟩⟩


/-- WHAT A ROW SAYS BEHIND THE CALL, where what was there is as it was. -/
theorem post_below {H : Type} {enc : TypeId × Value → H} {P : Program} {f : Func} {s : ChangeSpec} {apart fresh handsOn : Bool} {W W' : World} {args : Array Value} {v : Value} {ds gs : List (DataW H)} {before pa pv : List MemPlace}
    (hW : DataW.Whole enc P f.params.toList s.vars apart W args.toList ds gs before)
    (hres : ∀ (b : Nat) (sp : Nat → Bool) (hd : Bool), DataW.TrodAll enc P W' b sp hd f.resultTypes.toList (v.resultList f.resultTypes.size) (s.fn H (ds ++ gs)).results [])
    (hargs : ∀ sp : Nat → Bool, (∀ p ∈ before, sp p.block = true) → DataW.TrodAll enc P W' 0 sp true f.params.toList args.toList (s.fn H (ds ++ gs)).args pa)
    (hvars : ∀ sp : Nat → Bool, (∀ p ∈ before, sp p.block = true) → DataW.TrodVars enc P W' sp s.vars (s.fn H (ds ++ gs)).vars pv)
    (hps : before = pa ++ pv) (hb : Below W.heap.size W W') :
    s.post enc P f apart fresh handsOn false W args v W' := by
  have hold : ∀ p ∈ before, (fun b => decide (b < W.heap.size)) p.block = true := fun p hp => by simpa using hW.lt p hp
  refine ⟨ds, gs, before, [], pa, pv, hW, hres _ _ _, hargs _ hold, hvars _ hold, World.keptBut_mono (fun p hp => ⟨hp, ?_⟩) (hb.frame (· ∈ before)), fun h => by cases h⟩
  rw [hps, List.mem_append] at hp
  exact Or.inr hp

/-- The arguments read again behind the call, where what was there is as it was. -/
theorem args_keep {H : Type} {enc : TypeId × Value → H} {P : Program} (hl : laidOutB P = true) {W W' : World} (hb : Below W.heap.size W W') {sp : Nat → Bool} : ∀ {ts : List TypeId} {vs : List Value} {ds : List (DataW H)} {ps : List MemPlace},
    (∀ t ∈ ts, P.readableRec t = true ∧ t < P.types.size) → DataW.TrodAll enc P W 0 (fun _ => true) true ts vs ds ps → (∀ p ∈ ps, p.block < W.heap.size) → (∀ p ∈ ps, sp p.block = true) → DataW.TrodAll enc P W' 0 sp true ts vs ds ps
  | [], vs, ds, ps, _, h, _, _ => by
    obtain ⟨rfl, rfl, rfl⟩ := trodAll_nil h
    exact trodAll_mk0
  | t :: ts, vs, ds, ps, ht, h, hlt, hsp => by
    obtain ⟨v, vs', d, ds', p, q, rfl, rfl, rfl, h0, r0⟩ := trodAll_cons h
    have h1 := ht t (by simp)
    exact trodAll_cons_mk (WideElems.Trod_stays hl h1.1 h1.2 h0 (fun x hx => hb.same (hlt x (by simp [hx]))) (fun x hx => hsp x (by simp [hx])))
      (args_keep hl hb (fun t' h' => ht t' (by simp [h'])) r0 (fun x hx => hlt x (by simp [hx])) (fun x hx => hsp x (by simp [hx])))
theorem Tryd.laidOut : laidOutB Tryd.prog = true := by kernel_rfl

theorem gOpt : Tryd.prog.globalNamed "internal/strconv.optimize" = some 1 := by kernel_rfl
theorem gOptT : (Tryd.prog.globals[1]?).map (·.type) = some 4 := by kernel_rfl
theorem gTensT : (Tryd.prog.globals[4]?).map (·.type) = some 127 := by kernel_rfl
theorem gTab : Tryd.prog.globalNamed "internal/strconv.pow10Tab" = some 5 := by kernel_rfl
theorem gTabT : (Tryd.prog.globals[5]?).map (·.type) = some 139 := by kernel_rfl
theorem gCht : Tryd.prog.globalNamed "internal/strconv.leftcheats" = some 6 := by kernel_rfl
theorem gChtT : (Tryd.prog.globals[6]?).map (·.type) = some 146 := by kernel_rfl
theorem cells127 : Tryd.prog.cellsOf 127 = 20 := by kernel_rfl
theorem cells36 : Tryd.prog.cellsOf 36 = 1 := by kernel_rfl
theorem cells3 : Tryd.prog.cellsOf 3 = 1 := by kernel_rfl
theorem cells138 : Tryd.prog.cellsOf 138 = 2 := by kernel_rfl
theorem cells139 : Tryd.prog.cellsOf 139 = 1392 := by kernel_rfl
theorem cells145 : Tryd.prog.cellsOf 145 = 2 := by kernel_rfl
theorem cell_lt {W : World} {a : Addr} {v : Value} (h : W.cell? a = some v) : a.block < W.heap.size := by
  rcases Nat.lt_or_ge a.block W.heap.size with hlt | hge
  · exact hlt
  · unfold World.cell? at h
    rw [Array.getElem?_eq_none hge] at h
    cases a with
    | mk b o sp => cases sp <;> cases h
section
variable {H : Type} {enc : TypeId × Value → H} {w : World} {base : Nat} {spare : Nat → Bool} {held : Bool} {fuel : Nat} {cs : List Value} {x : DataW H × List MemPlace}
theorem open_pm (h : DataW.trod enc Tryd.prog w base spare held fuel 138 cs = some x) : ∃ a b : Int, cs = [.int .u64 a, .int .u64 b] ∧ x.1 = .agg [.lit (.int .u64 a), .lit (.int .u64 b)] := by
  cases fuel with
  | zero => simp [DataW.trod] at h
  | succ fuel =>
    simp only [DataW.trod, Tryd.underlying138, cells138, List.mapM_cons, List.mapM_nil, Option.bind_eq_bind, Option.pure_def, cells36, List.drop_zero] at h
    split at h
    · rename_i hl
      obtain ⟨c0, c1, rfl⟩ : ∃ c0 c1, cs = [c0, c1] := by
        match cs, hl with
        | [c0, c1], _ => exact ⟨c0, c1, rfl⟩
      obtain ⟨xs, hm, rfl⟩ := Option.map_eq_some_iff.1 h
      obtain ⟨y0, h0, hm⟩ := Option.bind_eq_some_iff.1 hm
      obtain ⟨ys, h1, hm⟩ := Option.bind_eq_some_iff.1 hm
      obtain ⟨y1, h1, hz⟩ := Option.bind_eq_some_iff.1 h1
      obtain ⟨a, e0, rfl, _⟩ := DataW.trod_int Tryd.underlying36 h0
      obtain ⟨b, e1, rfl, _⟩ := DataW.trod_int Tryd.underlying36 h1
      simp at e0 e1 hz hm
      subst e0 e1 hz hm
      exact ⟨a, b, rfl, rfl⟩
    · cases h
theorem open_cheat (h : DataW.trod enc Tryd.prog w base spare held fuel 145 cs = some x) : ∃ (a : Int) (s : ByteArray), cs = [.int .i64 a, .string s] ∧ x.1 = .agg [.lit (.int .i64 a), .lit (.string s.data.toList)] := by
  cases fuel with
  | zero => simp [DataW.trod] at h
  | succ fuel =>
    simp only [DataW.trod, Tryd.underlying145, cells145, List.mapM_cons, List.mapM_nil, Option.bind_eq_bind, Option.pure_def, cells3, cells9, List.drop_zero] at h
    split at h
    · rename_i hl
      obtain ⟨c0, c1, rfl⟩ : ∃ c0 c1, cs = [c0, c1] := by
        match cs, hl with
        | [c0, c1], _ => exact ⟨c0, c1, rfl⟩
      obtain ⟨xs, hm, rfl⟩ := Option.map_eq_some_iff.1 h
      obtain ⟨y0, h0, hm⟩ := Option.bind_eq_some_iff.1 hm
      obtain ⟨ys, h1, hm⟩ := Option.bind_eq_some_iff.1 hm
      obtain ⟨y1, h1, hz⟩ := Option.bind_eq_some_iff.1 h1
      obtain ⟨a, e0, rfl, _⟩ := DataW.trod_int Tryd.underlying3 h0
      obtain ⟨b, e1, rfl, _⟩ := DataW.trod_string Tryd.underlying9 h1
      simp at e0 e1 hz hm
      subst e0 e1 hz hm
      exact ⟨a, b, rfl, rfl⟩
    · cases h
theorem open_tab (h : DataW.trod enc Tryd.prog w base spare held fuel 139 cs = some x) (rows : List (Nat × Nat)) (hr : x.1 = .agg (rows.map fun r => .agg [.lit (.int .u64 r.1), .lit (.int .u64 r.2)])) :
    ∀ i, i < 696 → cs[i * 2]? = some (.int .u64 ((rows.getD i (0, 0)).1 : Int)) ∧ cs[i * 2 + 1]? = some (.int .u64 ((rows.getD i (0, 0)).2 : Int)) := by
  cases fuel with
  | zero => simp [DataW.trod] at h
  | succ fuel =>
    simp only [DataW.trod, Tryd.underlying139, cells138, cells139] at h
    split at h
    · rename_i hl
      obtain ⟨xs, hm, rfl⟩ := Option.map_eq_some_iff.1 h
      intro i hi
      obtain ⟨b, hb, hf⟩ := Lib.mapM_at hm i i (by simp [hi])
      obtain ⟨u, v, e0, e1⟩ := open_pm hf
      have hxr : xs.map (·.1) = rows.map fun r => (DataW.agg [.lit (.int .u64 r.1), .lit (.int .u64 r.2)] : DataW H) := by
        have h1 : (DataW.agg (xs.map (·.1)) : DataW H) = .agg (rows.map fun r => .agg [.lit (.int .u64 r.1), .lit (.int .u64 r.2)]) := hr
        injection h1
      have h2 := congrArg (·[i]?) hxr
      simp only [List.getElem?_map, hb, Option.map_some] at h2
      obtain ⟨r, hr1, hr2⟩ := Option.map_eq_some_iff.1 h2.symm
      rw [e1] at hr2
      simp only [DataW.agg.injEq, List.cons.injEq, DataW.lit.injEq, Lit.int.injEq, true_and, and_true] at hr2
      have hg : rows.getD i (0, 0) = r := by rw [List.getD_eq_getElem?_getD, hr1]; rfl
      rw [hg]
      have c0 := congrArg (·[0]?) e0
      have c1 := congrArg (·[1]?) e0
      simp [List.getElem?_drop] at c0 c1
      rw [c0, c1, hr2.1, hr2.2]
      exact ⟨rfl, rfl⟩
    · cases h
theorem open_cheats (h : DataW.trod enc Tryd.prog w base spare held fuel 146 cs = some x) (rows : List (Nat × List UInt8)) (hr : x.1 = .slice (rows.map fun r => .agg [.lit (.int .i64 r.1), .lit (.string r.2)]) []) :
    ∃ (a : Addr) (cap : Nat), cs = [.slice (some a) rows.length cap] ∧ rows.length ≤ cap ∧ ∀ i, i < rows.length → w.cell? (a.add (i * 2)) = some (.int .i64 ((rows.getD i (0, [])).1 : Int)) ∧ w.cell? ((a.add (i * 2)).add 1) = some (.string ⟨(rows.getD i (0, [])).2.toArray⟩) := by
  rcases Go.Deep.open_slice Tryd.underlying146 h with ⟨_, rfl⟩ | ⟨a, len, cap, m, n, D, Pl, rfl, hb, hl, _, hm, rfl, hx⟩
  · cases hr
  · rw [cells145] at hx
    have hxr : (List.range len).map D = rows.map fun r => (DataW.agg [.lit (.int .i64 r.1), .lit (.string r.2)] : DataW H) := by
      have h1 : (DataW.slice ((List.range len).map D) ((List.range (m - len)).map fun j => D (len + j)) : DataW H) = .slice (rows.map fun r => .agg [.lit (.int .i64 r.1), .lit (.string r.2)]) [] := hr
      injection h1
    have hlen : len = rows.length := by
      have h1 := congrArg List.length hxr
      simpa using h1
    subst hlen
    refine ⟨a, cap, rfl, hl, fun i hi => ?_⟩
    obtain ⟨cs2, hc2, hf⟩ := hx i (by rw [hm]; split <;> omega)
    obtain ⟨u, s, e0, e1⟩ := open_cheat hf
    have h2 := congrArg (·[i]?) hxr
    simp only [List.getElem?_map, List.getElem?_range hi, Option.map_some] at h2
    obtain ⟨r, hr1, hr2⟩ := Option.map_eq_some_iff.1 h2.symm
    have e1 : D i = _ := e1
    rw [e1] at hr2
    simp only [DataW.agg.injEq, List.cons.injEq, DataW.lit.injEq, Lit.int.injEq, Lit.string.injEq, true_and, and_true] at hr2
    have hg : rows.getD i (0, []) = r := by rw [List.getD_eq_getElem?_getD, hr1]; rfl
    rw [hg]
    have hcell := (World.cells?_some hc2).2.2
    rw [e0] at hcell
    have k0 := hcell 0 (by omega)
    have k1 := hcell 1 (by omega)
    constructor
    · have : (a.add (i * 2)).add 0 = a.add (i * 2) := by simp [Addr.add]
      rw [← this, k0, hr2.1]
      rfl
    · rw [k1, hr2.2]
      rfl
end
theorem glob_of {W : World} (h : laidMetH Tryd.prog laidAll W) : Glob W := by
  have h0 : laidMet Tryd.prog laidAll W := h
  obtain ⟨g, t, cs, fuel, p, hg, ht, hv, hr⟩ := Lib.laidMet.reads h0 (n := "internal/strconv.optimize") (d := Rows.laid_internal_strconv_optimize) (by simp [laidAll])
  obtain rfl := Option.some.inj (gOpt.symm.trans hg)
  obtain rfl := Option.some.inj (gOptT.symm.trans ht)
  obtain ⟨g1, t1, cs1, f1, p1, hg1, ht1, hv1, hr1⟩ := Lib.laidMet.reads h0 (n := "internal/strconv.uint64pow10") (d := Rows.laid_internal_strconv_uint64pow10) (by simp [laidAll])
  obtain rfl := Option.some.inj (gTens.symm.trans hg1)
  obtain rfl := Option.some.inj (gTensT.symm.trans ht1)
  obtain ⟨g2, t2, cs2, f2, p2, hg2, ht2, hv2, hr2⟩ := Lib.laidMet.reads h0 (n := "internal/strconv.pow10Tab") (d := Rows.laid_internal_strconv_pow10Tab) (by simp [laidAll])
  obtain rfl := Option.some.inj (gTab.symm.trans hg2)
  obtain rfl := Option.some.inj (gTabT.symm.trans ht2)
  obtain ⟨g3, t3, cs3, f3, p3, hg3, ht3, hv3, hr3⟩ := Lib.laidMet.reads h0 (n := "internal/strconv.leftcheats") (d := Rows.laid_internal_strconv_leftcheats) (by simp [laidAll])
  obtain rfl := Option.some.inj (gCht.symm.trans hg3)
  obtain rfl := Option.some.inj (gChtT.symm.trans ht3)
  have hb := DataW.trod_bool Tryd.underlying4 hr
  have htens := Lib.cells_of_tab (k := .u64) (zs := Lib.pow10Tab) Tryd.underlying127 Tryd.underlying36 cells36 cells127 hr1
  have hT : Lib.TabIs Tryd.prog W "internal/strconv.uint64pow10" .u64 Lib.pow10Tab := by
    unfold Lib.TabIs
    rw [hv1, ← htens]
  have htab := open_tab hr2 Go.Pinned.pow10Rows rfl
  obtain ⟨a, cap, e3, hcap, hch⟩ := open_cheats hr3 Go.Pinned.cheatRows rfl
  have hlen : Go.Pinned.cheatRows.length = 61 := by decide +kernel
  have hcell : ∀ {nm : String} {g : Nat} {cs : Array Value}, Tryd.prog.globalNamed nm = some g → W.var? Tryd.prog nm = some cs → ∀ i, W.cell? ⟨g, i, none⟩ = cs.toList[i]? := fun hg hv i => by
    rw [var?_cell hg hv i]
    simp
  have o0 : W.cell? ⟨1, 0, none⟩ = some (.bool true) := by
    obtain ⟨b, e0, e1⟩ := hb
    rw [hcell gOpt hv 0, e0]
    have : (DataW.lit (.bool true) : DataW Unit) = .lit (.bool b) := congrArg Prod.fst e1
    injection this with this
    injection this with this
    rw [← this]
    rfl
  obtain ⟨ab, ao, asp⟩ := a
  have hasp : asp = none := by
    have h0 := (hch 0 (by omega)).1
    simpa [Addr.add] using World.cell?_spot h0
  subst hasp
  have c0 := (hch 0 (by omega)).1
  have c6 := hcell gCht hv3 0
  rw [e3, hlen] at c6
  have db32 := Lib.laidMet.reads h0 (n := "math/bits.deBruijn64tab") (d := Rows.laid_math_bits_deBruijn64tab) (by simp [laidAll])
  obtain ⟨g8, t8, cs8, f8, p8, hg8, ht8, hv8, hr8⟩ := db32
  obtain rfl := Option.some.inj ((show Tryd.prog.globalNamed "math/bits.deBruijn64tab" = some 8 by kernel_rfl).symm.trans hg8)
  obtain rfl := Option.some.inj ((show (Tryd.prog.globals[8]?).map (·.type) = some 149 by kernel_rfl).symm.trans ht8)
  have h8 := Lib.cells_of_tab (k := .u8) (zs := [0, 1, 56, 2, 57, 49, 28, 3, 61, 58, 42, 50, 38, 29, 17, 4, 62, 47, 59, 36, 45, 43, 51, 22, 53, 39, 33, 30, 24, 18, 12, 5, 63, 55, 48, 27, 60, 41, 37, 16, 46, 35, 44, 21, 52, 32, 23, 11, 54, 26, 40, 15, 34, 20, 31, 10, 25, 14, 19, 9, 13, 8, 7, 6]) Tryd.underlying149 Tryd.underlying5 (show Tryd.prog.cellsOf 5 = 1 by kernel_rfl) (show Tryd.prog.cellsOf 149 = 64 by kernel_rfl) hr8
  have c8 := hcell (show Tryd.prog.globalNamed "math/bits.deBruijn64tab" = some 8 by kernel_rfl) hv8 0
  rw [h8] at c8
  refine ⟨cell_lt (a := ⟨8, 0, none⟩) c8, o0, hT, fun i hi => ?_, fun i hi => ?_, ⟨ab, ao, cap, c6, cell_lt c0, by omega, fun i hi => ?_⟩⟩
  · have := hT.cell gTens i (by simpa [Lib.pow10Tab] using hi)
    rw [this, Lib.pow10Tab_at i hi]
  · have h1 := htab i hi
    rw [hcell gTab hv2, hcell gTab hv2]
    exact h1
  · have h1 := hch i (by omega)
    have e1 : (⟨ab, ao, none⟩ : Addr).add (i * 2) = ⟨ab, ao + 2 * i, none⟩ := by rw [Go.WideShapes.add_plain, Nat.mul_comm]
    have e2 : ((⟨ab, ao, none⟩ : Addr).add (i * 2)).add 1 = ⟨ab, ao + (2 * i + 1), none⟩ := by rw [Go.WideShapes.add_plain, Go.WideShapes.add_plain, Nat.mul_comm, Nat.add_assoc]
    rw [e2] at h1
    rw [e1] at h1
    exact h1
def powCells : List Value := Go.Pinned.pow10Rows.flatMap fun x => [Value.int .u64 x.1, .int .u64 x.2]
theorem drop_pair : ∀ (rows : List (Nat × Nat)) (i : Nat) (x : Nat × Nat), rows[i]? = some x → ((rows.flatMap fun x => [Value.int .u64 x.1, .int .u64 x.2]).drop (i * 2)).take 2 = [.int .u64 x.1, .int .u64 x.2]
  | [], i, x, h => by simp at h
  | y :: r, 0, x, h => by
    have hy : y = x := by simpa using h
    subst hy
    rfl
  | y :: r, i + 1, x, h => by
    rw [List.flatMap_cons, show (i + 1) * 2 = i * 2 + 2 by omega, ← List.drop_drop]
    have h1 := drop_pair r i x (by simpa using h)
    have h2 : (([Value.int .u64 y.1, .int .u64 y.2] ++ r.flatMap fun x => [Value.int .u64 x.1, .int .u64 x.2])).drop 2 = r.flatMap fun x => [Value.int .u64 x.1, .int .u64 x.2] := rfl
    rw [List.drop_drop, Nat.add_comm, ← List.drop_drop, h2]
    exact h1
theorem pow_wf : (Go.Pinned.pow10Rows.all fun x => (Lit.int .u64 x.1).wf && (Lit.int .u64 x.2).wf) = true := by decide +kernel
theorem pow_len : Go.Pinned.pow10Rows.length = 696 := by decide +kernel
theorem powCells_len : powCells.length = 1392 := by decide +kernel
theorem pair_reads (w : World) (a b : Nat) (ha : (Lit.int .u64 a).wf = true) (hb : (Lit.int .u64 b).wf = true) : DataW.trod (fun _ => ()) Tryd.prog w 0 (fun _ => true) false 2 138 [.int .u64 (a : Int), .int .u64 (b : Int)] = some (.agg [.lit (.int .u64 (a : Int)), .lit (.int .u64 (b : Int))], []) := by
  simp [DataW.trod, Tryd.underlying138, cells138, cells36, Tryd.underlying36, ha, hb]
theorem pow_rows (R : List (Nat × Nat)) (n : Nat) (hR : R.length = n) (f : Nat × Nat → DataW Unit) : (List.range n).map (fun i => f (R.getD i (0, 0))) = R.map f := by
  apply List.ext_getElem?
  intro i
  by_cases hi : i < n
  · have hi2 : i < R.length := by omega
    simp [hi, hi2]
  · rw [List.getElem?_eq_none (by simp; omega), List.getElem?_eq_none (by rw [List.length_map]; omega)]
theorem flat_nil {α β : Type} (l : List α) (g : α → List β) (h : ∀ a ∈ l, g a = []) : l.flatMap g = [] := by
  induction l with
  | nil => rfl
  | cons a r ih => rw [List.flatMap_cons, h a (List.mem_cons_self ..), List.nil_append, ih fun b hb => h b (List.mem_cons_of_mem _ hb)]
def pairD (r : Nat × Nat) : DataW Unit := .agg [.lit (.int .u64 (r.1 : Int)), .lit (.int .u64 (r.2 : Int))]
theorem pow_fst : ((List.range 696).map fun i => (pairD (Go.Pinned.pow10Rows.getD i (0, 0)), ([] : List MemPlace))).map (fun x => x.1) = Go.Pinned.pow10Rows.map pairD := by
  rw [List.map_map]
  exact pow_rows _ 696 pow_len pairD
theorem pow_snd : ((List.range 696).map fun i => (pairD (Go.Pinned.pow10Rows.getD i (0, 0)), ([] : List MemPlace))).flatMap (fun x => x.2) = [] := by
  refine flat_nil _ _ fun a ha => ?_
  obtain ⟨i, _, rfl⟩ := List.mem_map.1 ha
  rfl
theorem pow_data : (DataW.agg (Go.Pinned.pow10Rows.map pairD) : DataW Unit) = Rows.laid_internal_strconv_pow10Tab := rfl
theorem pow_reads' (w : World) (F : Nat) (hF : F = 2) : DataW.trod (fun _ => ()) Tryd.prog w 0 (fun _ => true) false (F + 1) 139 powCells = some (Rows.laid_internal_strconv_pow10Tab, []) := by
  unfold DataW.trod
  simp only [Tryd.underlying139, cells138, cells139]
  rw [if_pos powCells_len]
  have helem : ∀ i ∈ List.range 696, DataW.trod (fun _ => ()) Tryd.prog w 0 (fun _ => true) false F 138 ((powCells.drop (i * 2)).take 2) = some ((fun i => (pairD (Go.Pinned.pow10Rows.getD i (0, 0)), ([] : List MemPlace))) i) := fun i hi => by
    have hi2 : i < Go.Pinned.pow10Rows.length := by rw [pow_len]; exact List.mem_range.1 hi
    have hx : Go.Pinned.pow10Rows[i]? = some (Go.Pinned.pow10Rows.getD i (0, 0)) := by rw [List.getD_eq_getElem?_getD, List.getElem?_eq_getElem hi2]; rfl
    unfold powCells
    rw [drop_pair _ i _ hx]
    have hw := List.all_eq_true.1 pow_wf _ (List.mem_of_getElem? hx)
    simp only [Bool.and_eq_true] at hw
    rw [hF]
    exact pair_reads w _ _ hw.1 hw.2
  rw [Go.Lib.mapM_some _ _ _ helem]
  rw [Option.map_some, pow_fst, pow_snd, pow_data]
theorem pow_reads (w : World) : DataW.trod (fun _ => ()) Tryd.prog w 0 (fun _ => true) false 3 139 powCells = some (Rows.laid_internal_strconv_pow10Tab, []) := pow_reads' w 2 rfl
def laidBut : List (String × DataW Unit) := [("math/bits.deBruijn32tab", Rows.laid_math_bits_deBruijn32tab), ("math/bits.deBruijn64tab", Rows.laid_math_bits_deBruijn64tab), ("internal/strconv.optimize", Rows.laid_internal_strconv_optimize), ("internal/strconv.uint64pow10", Rows.laid_internal_strconv_uint64pow10), ("strconv.ErrRange", Rows.laid_strconv_ErrRange), ("strconv.ErrSyntax", Rows.laid_strconv_ErrSyntax), ("internal/strconv.leftcheats", Rows.laid_internal_strconv_leftcheats)]
theorem pow_no (u : TypeId) (v : Value) : Value.iface u v ∉ powCells := by
  intro hm
  unfold powCells at hm
  obtain ⟨y, _, hy⟩ := List.mem_flatMap.1 hm
  simp at hy
set_option maxRecDepth 1000000 in
theorem laid_with_tab {w : World} (C : List Value) (hread : ∀ w, DataW.trod (fun _ => ()) Tryd.prog w 0 (fun _ => true) false 3 139 C = some (Rows.laid_internal_strconv_pow10Tab, [])) (hno : ∀ u v, Value.iface u v ∉ C) (fuel : Nat)
    (h : (DataW.laidRun Tryd.prog w fuel (laidBut.map (·.1))).map (·.1) = some laidBut)
    (hn : (DataW.laidRun Tryd.prog w fuel (laidBut.map (·.1))).map (fun x => nodupB (x.2.map MemPlace.codeOf)) = some true)
    (hr : (DataW.laidRun Tryd.prog w fuel (laidBut.map (·.1))).map (fun x => laidRowsB Tryd.prog w x.2) = some true)
    (hoff : (DataW.laidRun Tryd.prog w fuel (laidBut.map (·.1))).map (fun x => x.2.all fun p => p.block != 5) = some true)
    (hblk : w.heap[5]? = some (.cells C.toArray 139 (0, 0))) : laidMet Tryd.prog laidAll w := by
  cases hx : DataW.laidRun Tryd.prog w fuel (laidBut.map (·.1)) with
  | none => simp [hx] at h
  | some x =>
    rw [hx] at h hn hr hoff
    simp only [Option.map_some, Option.some.injEq] at h hn hr hoff
    obtain ⟨x1, ps⟩ := x
    simp only at h hn hr hoff
    subst h
    have hv : w.var? Tryd.prog "internal/strconv.pow10Tab" = some C.toArray := by
      unfold World.var?
      rw [gTab]
      simp [hblk]
    have hlast : DataW.LaidVars Tryd.prog w [("internal/strconv.pow10Tab", Rows.laid_internal_strconv_pow10Tab)] (MemPlace.row ⟨5, 0, none⟩ C.toArray.size ++ [] ++ []) :=
      ⟨5, 139, _, 3, [], [], gTab, gTabT, hv, hread w, rfl, rfl⟩
    have hblocks : ∀ p ∈ ps, p.block ≠ 5 := fun p hp => by
      have := List.all_eq_true.1 hoff p hp
      simpa using this
    refine ⟨_, LaidVars_append (DataW.LaidVars_of_laidRun hx) hlast, ?_, fun b off hp => ?_⟩
    · rw [List.append_nil, List.append_nil]
      refine List.nodup_append.2 ⟨nodup_of_code hn, row_nodup _ _, ?_⟩
      intro a ha b hb e
      subst e
      obtain ⟨i, _, rfl⟩ := MemPlace.mem_row.1 hb
      exact hblocks _ ha rfl
    · rw [List.append_nil, List.append_nil] at hp
      rcases List.mem_append.1 hp with hp | hp
      · have := List.all_eq_true.1 hr _ hp
        simp only [Bool.and_eq_true] at this
        obtain ⟨h1, h2⟩ := this
        refine ⟨?_, fun u v hc => ?_⟩
        · split at h1
          · rename_i c t' hh
            exact ⟨c, t', hh⟩
          · cases h1
        · rw [hc] at h2
          exact Value.okWide_of_okWideB h2
      · obtain ⟨i, hi, e⟩ := MemPlace.mem_row.1 hp
        cases e
        refine ⟨⟨_, _, hblk⟩, fun u v hc => ?_⟩
        exfalso
        have h1 : C[0 + i]? = some (.iface u v) := by
          have h2 : w.cell? ⟨5, 0 + i, none⟩ = C.toArray[0 + i]? := by simp [World.cell?, hblk]
          have h3 : w.cell? ⟨5, 0 + i, none⟩ = some (.iface u v) := hc
          rw [h2] at h3
          simpa using h3
        exact hno u v (List.mem_of_getElem? h1)
/-- A WORLD FOR THE WITNESS: the settled one with three blocks more (the texts of the two errors, the table of shifts), the eight variables holding what their initialisers lay. -/
noncomputable def laidWorld (os : Os) : World :=
  let N := (World.settled Tryd.prog os).heap.size
  let w0 := World.holding Tryd.prog os ⟨#[.cells #[.string ⟨#[118, 97, 108, 117, 101, 32, 111, 117, 116, 32, 111, 102, 32, 114, 97, 110, 103, 101]⟩] 79, .cells #[.string ⟨#[105, 110, 118, 97, 108, 105, 100, 32, 115, 121, 110, 116, 97, 120]⟩] 79, .cells (Go.Pinned.cheatRows.flatMap fun x => [Value.int .i64 x.1, .string ⟨x.2.toArray⟩]).toArray 145], #[], []⟩
  let put (h : Array Obj) (g : Nat) (cs : Array Value) : Array Obj := h.modify g fun
    | .cells _ t frozen => .cells cs t frozen
    | o => o
  let h0 := put (put (put (put (put w0.heap 2 #[.iface 77 (.pointer (some ⟨N + 1, 0, none⟩))]) 3 #[.iface 77 (.pointer (some ⟨N, 0, none⟩))]) 1 #[.bool true]) 6 #[.slice (some ⟨N + 2, 0, none⟩) 61 61]) 5 powCells.toArray
  let h1 := put h0 4 #[.int .u64 1, .int .u64 10, .int .u64 100, .int .u64 1000, .int .u64 10000, .int .u64 100000, .int .u64 1000000, .int .u64 10000000, .int .u64 100000000, .int .u64 1000000000, .int .u64 10000000000, .int .u64 100000000000, .int .u64 1000000000000, .int .u64 10000000000000, .int .u64 100000000000000, .int .u64 1000000000000000, .int .u64 10000000000000000, .int .u64 100000000000000000, .int .u64 1000000000000000000, .int .u64 10000000000000000000]
  let h2 := put h1 7 #[.int .u8 0, .int .u8 1, .int .u8 28, .int .u8 2, .int .u8 29, .int .u8 14, .int .u8 24, .int .u8 3, .int .u8 30, .int .u8 22, .int .u8 20, .int .u8 15, .int .u8 25, .int .u8 17, .int .u8 4, .int .u8 8, .int .u8 31, .int .u8 27, .int .u8 13, .int .u8 23, .int .u8 21, .int .u8 19, .int .u8 16, .int .u8 7, .int .u8 26, .int .u8 12, .int .u8 18, .int .u8 6, .int .u8 11, .int .u8 5, .int .u8 10, .int .u8 9]
  let h3 := put h2 8 #[.int .u8 0, .int .u8 1, .int .u8 56, .int .u8 2, .int .u8 57, .int .u8 49, .int .u8 28, .int .u8 3, .int .u8 61, .int .u8 58, .int .u8 42, .int .u8 50, .int .u8 38, .int .u8 29, .int .u8 17, .int .u8 4, .int .u8 62, .int .u8 47, .int .u8 59, .int .u8 36, .int .u8 45, .int .u8 43, .int .u8 51, .int .u8 22, .int .u8 53, .int .u8 39, .int .u8 33, .int .u8 30, .int .u8 24, .int .u8 18, .int .u8 12, .int .u8 5, .int .u8 63, .int .u8 55, .int .u8 48, .int .u8 27, .int .u8 60, .int .u8 41, .int .u8 37, .int .u8 16, .int .u8 46, .int .u8 35, .int .u8 44, .int .u8 21, .int .u8 52, .int .u8 32, .int .u8 23, .int .u8 11, .int .u8 54, .int .u8 26, .int .u8 40, .int .u8 15, .int .u8 34, .int .u8 20, .int .u8 31, .int .u8 10, .int .u8 25, .int .u8 14, .int .u8 19, .int .u8 9, .int .u8 13, .int .u8 8, .int .u8 7, .int .u8 6]
  { w0 with heap := h3 }
theorem laid_met (os : Os) (args : Array Value) : laidMet Tryd.prog laidAll ((laidWorld os).forCall (fun _ _ => 0) ⟨#[], args, []⟩).memory :=
  laid_with_tab powCells pow_reads pow_no 8 (by kernel_rfl) (by kernel_rfl) (by kernel_rfl) (by kernel_rfl) (by kernel_rfl)
end Go.Proofs.YtnfddblpenninaaDoor
