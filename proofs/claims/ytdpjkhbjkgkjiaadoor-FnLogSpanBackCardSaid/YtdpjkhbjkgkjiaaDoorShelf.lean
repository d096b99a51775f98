/-
  DERIVED: THE SHELF's CONTRACTS AT THIS DUMP, IN PLAIN WORDS (tools/lay-plain.mjs out of 'TrydShelfPick.lean', which tools/lay-shelf.mjs wrote): THE SAME DECLARATIONS UNDER THE SAME NAMES: 'import', 'namespace', 'open', 'def', 'theorem' AND NOTHING ELSE: no command of the shelf's: FOR A HAND-IN. Each laying: the table of numbers ('.._ren') and one theorem, a field a fact of the dump's own or the kernel's comparison; each contract: ONE APPLICATION.
-/
import Derived.Shelf.Strconv.Atoi
import Derived.Shelf.Strconv.Itoa0
import Derived.Shelf.Strconv.Itoa1
import Derived.Shelf.LaysM
import Derived.Shelf.Strconv.Itoa2
import Derived.Shelf.Strconv.Itoa3
import Derived.Shelf.Strconv.AtoiErrFast
import Derived.Shelf.Strconv.ParseIntEmpty
import Derived.Shelf.Strconv.AtoiFail
import Derived.Shelf.Strconv.Clone
import Derived.Shelf.Strconv.SyntaxError
import Derived.Shelf.LaysC
import Derived.Shelf.Strconv.ToError
import Derived.Shelf.Strconv.Lower
import Derived.Shelf.Strconv.ParseUint10
import Derived.Shelf.Strconv.ParseUint10Empty
import Derived.Shelf.Strconv.ParseUint10Any
import Derived.Shelf.Strconv.ParseInt10
import Derived.Shelf.Strconv.AtoiLong
import Derived.Shelf.Strconv.AtoiInnerAll
import Derived.Shelf.Strconv.RangeError
import Derived.Shelf.Strconv.ToErrorRange
import Derived.Shelf.Strconv.AtoiAll
import Derived.Shelf.Strconv.ErrVarAll
import Derived.Test.YtdpjkhbjkgkjiaaDoorProg
namespace Go.Proofs
open Go.Shelf
def Tryd.laysC172_ren : Go.Shelf.Ren := ⟨fun | 172 => 20 | 244 => 26 | 245 => 27 | 247 => 33 | 279 => 34 | 280 => 35 | 281 => 36 | 282 => 37 | 287 => 41 | 316 => 42 | 171 => 22 | 205 => 21 | 321 => 48 | 322 => 49 | 243 => 28 | 246 => 38 | 283 => 43 | 284 => 44 | 285 => 45 | 286 => 46 | 129 => 51 | 317 => 50 | 318 => 52 | 319 => 53 | 320 => 54 | 337 => 55 | 338 => 56 | n => n, fun | 9 => 9 | 3 => 3 | 75 => 44 | 76 => 65 | 4 => 4 | 5 => 5 | 167 => 82 | 37 => 23 | 0 => 0 | 85 => 83 | 2 => 2 | 168 => 85 | 53 => 61 | 175 => 90 | 46 => 92 | 210 => 95 | 127 => 103 | 145 => 77 | 143 => 75 | 21 => 21 | 171 => 96 | 173 => 99 | 212 => 106 | 51 => 22 | 20 => 20 | 213 => 107 | 232 => 69 | 233 => 111 | 80 => 47 | n => n, fun | 15 => 0 | 16 => 1 | 17 => 2 | 18 => 3 | 19 => 4 | n => n⟩
theorem Tryd.laysC172 : Go.Proofs.LaysC.n172 Tryd.prog Tryd.laysC172_ren := {
  mixed := by kernel_rfl
  f129 := Tryd.func51.trans (congrArg some (by kernel_rfl))
  f171 := Tryd.func22.trans (congrArg some (by kernel_rfl))
  f172 := Tryd.func20.trans (congrArg some (by kernel_rfl))
  f205 := Tryd.func21.trans (congrArg some (by kernel_rfl))
  f243 := Tryd.func28.trans (congrArg some (by kernel_rfl))
  f244 := Tryd.func26.trans (congrArg some (by kernel_rfl))
  f245 := Tryd.func27.trans (congrArg some (by kernel_rfl))
  f246 := Tryd.func38.trans (congrArg some (by kernel_rfl))
  f247 := Tryd.func33.trans (congrArg some (by kernel_rfl))
  f279 := Tryd.func34.trans (congrArg some (by kernel_rfl))
  f280 := Tryd.func35.trans (congrArg some (by kernel_rfl))
  f281 := Tryd.func36.trans (congrArg some (by kernel_rfl))
  f282 := Tryd.func37.trans (congrArg some (by kernel_rfl))
  f283 := Tryd.func43.trans (congrArg some (by kernel_rfl))
  f284 := Tryd.func44.trans (congrArg some (by kernel_rfl))
  f285 := Tryd.func45.trans (congrArg some (by kernel_rfl))
  f286 := Tryd.func46.trans (congrArg some (by kernel_rfl))
  f287 := Tryd.func41.trans (congrArg some (by kernel_rfl))
  f316 := Tryd.func42.trans (congrArg some (by kernel_rfl))
  f317 := Tryd.func50.trans (congrArg some (by kernel_rfl))
  f318 := Tryd.func52.trans (congrArg some (by kernel_rfl))
  f319 := Tryd.func53.trans (congrArg some (by kernel_rfl))
  f320 := Tryd.func54.trans (congrArg some (by kernel_rfl))
  f321 := Tryd.func48.trans (congrArg some (by kernel_rfl))
  f322 := Tryd.func49.trans (congrArg some (by kernel_rfl))
  f337 := Tryd.func55.trans (congrArg some (by kernel_rfl))
  f338 := Tryd.func56.trans (congrArg some (by kernel_rfl))
  t0 := Tryd.underlying0
  a0 := Tryd.isAgg0
  z0 := Tryd.sizeOf0
  v0 := Tryd.zeroValue0
  t2 := Tryd.underlying2
  a2 := Tryd.isAgg2
  z2 := Tryd.sizeOf2
  v2 := Tryd.zeroValue2
  t3 := Tryd.underlying3
  a3 := Tryd.isAgg3
  z3 := Tryd.sizeOf3
  v3 := Tryd.zeroValue3
  t4 := Tryd.underlying4
  a4 := Tryd.isAgg4
  z4 := Tryd.sizeOf4
  v4 := Tryd.zeroValue4
  t5 := Tryd.underlying5
  a5 := Tryd.isAgg5
  z5 := Tryd.sizeOf5
  v5 := Tryd.zeroValue5
  t9 := Tryd.underlying9
  a9 := Tryd.isAgg9
  z9 := Tryd.sizeOf9
  v9 := Tryd.zeroValue9
  t20 := Tryd.underlying20
  a20 := Tryd.isAgg20
  z20 := Tryd.sizeOf20
  v20 := Tryd.zeroValue20
  t21 := Tryd.underlying21
  a21 := Tryd.isAgg21
  z21 := Tryd.sizeOf21
  v21 := Tryd.zeroValue21
  t37 := Tryd.underlying23
  a37 := Tryd.isAgg23
  z37 := Tryd.sizeOf23
  v37 := Tryd.zeroValue23
  t46 := Tryd.underlying92
  a46 := Tryd.isAgg92
  z46 := Tryd.sizeOf92
  v46 := Tryd.zeroValue92
  t51 := Tryd.underlying22
  a51 := Tryd.isAgg22
  z51 := Tryd.sizeOf22
  v51 := Tryd.zeroValue22
  t53 := Tryd.underlying61
  a53 := Tryd.isAgg61
  z53 := Tryd.sizeOf61
  v53 := Tryd.zeroValue61
  t75 := Tryd.underlying44
  a75 := Tryd.isAgg44
  z75 := Tryd.sizeOf44
  v75 := Tryd.zeroValue44
  t76 := Tryd.underlying65
  a76 := Tryd.isAgg65
  z76 := Tryd.sizeOf65
  v76 := Tryd.zeroValue65
  t85 := Tryd.underlying83
  a85 := Tryd.isAgg83
  z85 := Tryd.sizeOf83
  v85 := Tryd.zeroValue83
  t127 := Tryd.underlying103
  a127 := Tryd.isAgg103
  z127 := Tryd.sizeOf103
  v127 := Tryd.zeroValue103
  t143 := Tryd.underlying75
  a143 := Tryd.isAgg75
  z143 := Tryd.sizeOf75
  v143 := Tryd.zeroValue75
  t145 := Tryd.underlying77
  a145 := Tryd.isAgg77
  z145 := Tryd.sizeOf77
  v145 := Tryd.zeroValue77
  t167 := Tryd.underlying82
  a167 := Tryd.isAgg82
  z167 := Tryd.sizeOf82
  v167 := Tryd.zeroValue82
  t168 := Tryd.underlying85
  a168 := Tryd.isAgg85
  z168 := Tryd.sizeOf85
  v168 := Tryd.zeroValue85
  t171 := Tryd.underlying96
  a171 := Tryd.isAgg96
  z171 := Tryd.sizeOf96
  v171 := Tryd.zeroValue96
  t173 := Tryd.underlying99
  a173 := Tryd.isAgg99
  z173 := Tryd.sizeOf99
  v173 := Tryd.zeroValue99
  t175 := Tryd.underlying90
  a175 := Tryd.isAgg90
  z175 := Tryd.sizeOf90
  v175 := Tryd.zeroValue90
  t210 := Tryd.underlying95
  a210 := Tryd.isAgg95
  z210 := Tryd.sizeOf95
  v210 := Tryd.zeroValue95
  t212 := Tryd.underlying106
  a212 := Tryd.isAgg106
  z212 := Tryd.sizeOf106
  v212 := Tryd.zeroValue106
  t213 := Tryd.underlying107
  a213 := Tryd.isAgg107
  z213 := Tryd.sizeOf107
  t232 := Tryd.underlying69
  a232 := Tryd.isAgg69
  z232 := Tryd.sizeOf69
  v232 := Tryd.zeroValue69
  t233 := Tryd.underlying111
  a233 := Tryd.isAgg111
  z233 := Tryd.sizeOf111
  v233 := Tryd.zeroValue111
  g15 := by kernel_rfl
  g16 := by kernel_rfl
  g17 := by kernel_rfl
  g18 := by kernel_rfl
  g19 := by kernel_rfl
  t80 := Tryd.underlying47
  a80 := Tryd.isAgg47
  z80 := Tryd.sizeOf47
  v80 := Tryd.zeroValue47
  i0 := by kernel_rfl
  i2 := by kernel_rfl
  i3 := by kernel_rfl
  i4 := by kernel_rfl
  i5 := by kernel_rfl
  i9 := by kernel_rfl
  i20 := by kernel_rfl
  i21 := by kernel_rfl
  i37 := by kernel_rfl
  i46 := by kernel_rfl
  i51 := by kernel_rfl
  i53 := by kernel_rfl
  i75 := by kernel_rfl
  i76 := by kernel_rfl
  i80 := by kernel_rfl
  i85 := by kernel_rfl
  i127 := by kernel_rfl
  i143 := by kernel_rfl
  i145 := by kernel_rfl
  i167 := by kernel_rfl
  i168 := by kernel_rfl
  i171 := by kernel_rfl
  i173 := by kernel_rfl
  i175 := by kernel_rfl
  i210 := by kernel_rfl
  i212 := by kernel_rfl
  i232 := by kernel_rfl
  i233 := by kernel_rfl
  m15 := by kernel_rfl
  m16 := by kernel_rfl
  m17 := by kernel_rfl
  m18 := by kernel_rfl
  m19 := by kernel_rfl
  c0 := by kernel_rfl
  c2 := by kernel_rfl
  c3 := by kernel_rfl
  c4 := by kernel_rfl
  c5 := by kernel_rfl
  c9 := by kernel_rfl
  c20 := by kernel_rfl
  c21 := by kernel_rfl
  c37 := by kernel_rfl
  c46 := by kernel_rfl
  c51 := by kernel_rfl
  c53 := by kernel_rfl
  c75 := by kernel_rfl
  c76 := by kernel_rfl
  c80 := by kernel_rfl
  c85 := by kernel_rfl
  c127 := by kernel_rfl
  c143 := by kernel_rfl
  c145 := by kernel_rfl
  c167 := by kernel_rfl
  c168 := by kernel_rfl
  c171 := by kernel_rfl
  c173 := by kernel_rfl
  c175 := by kernel_rfl
  c210 := by kernel_rfl
  c212 := by kernel_rfl
  c213 := by kernel_rfl
  c232 := by kernel_rfl
  c233 := by kernel_rfl }
open Go.RowKit in
/-- strconv.Atoi, AT EVERY STRING THAT SPELLS AN int ('Lib.atoiAll .. = .ok v'; of whatever length: leading zeros count): v, AND NO ERROR. The world: as it was, or with the one new row that '[]byte(..)' lays. (LAID: no walk: one application.) -/
theorem Tryd.strconv_Atoi_ok (s : ByteArray) (hmax : s.size ≤ 9223372036854775806) (v : Int) (h : Lib.atoiAll s.data.toList = .ok v) (w : World) :
    Calls Tryd.prog 20 #[.string s] w fun e w' => e = .returned (.tuple #[.int .i64 v, .nilIface]) ∧ (w' = w ∨ ∃ t, w' = Lib.bytesWorld w 5 t) := Any.strconv_Atoi_ok Tryd.laysC172 s hmax v h w
open Go.RowKit in
theorem Tryd.strconv_Atoi_range_var (s : ByteArray) (hlim : s.size ≤ 281474976710656) (h : Lib.atoiAll s.data.toList = .range) (tp : TypeId) (p : Value) (w : World) (hvar : w.var? Tryd.prog "strconv.ErrRange" = some #[.iface tp p]) :
    Calls Tryd.prog 20 #[.string s] w fun e w' => ∃ N, e = .returned (.tuple #[.int .i64 (Lib.atoiSat s.data.toList), .iface 85 (.pointer (some ⟨N, 0, none⟩))]) ∧ w.heap.size ≤ N ∧ w'.heap[N]? = some (.cells #[.string ⟨#[65, 116, 111, 105]⟩, .string s, .iface tp p] 95 (0, 0)) ∧ Below w.heap.size w w' := Any.strconv_Atoi_range_var Tryd.laysC172 s hlim h tp p w hvar
end Go.Proofs
