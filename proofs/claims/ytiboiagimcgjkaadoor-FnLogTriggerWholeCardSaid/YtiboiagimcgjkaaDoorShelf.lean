/-
  DERIVED: THE SHELF's CONTRACTS AT THIS DUMP, IN PLAIN WORDS (tools/lay-plain.mjs out of 'TrydShelfPick.lean', which tools/lay-shelf.mjs wrote): THE SAME DECLARATIONS UNDER THE SAME NAMES: 'import', 'namespace', 'open', 'def', 'theorem' AND NOTHING ELSE: no command of the shelf's: FOR A HAND-IN. Each laying: the table of numbers ('.._ren') and one theorem, a field a fact of the dump's own or the kernel's comparison; each contract: ONE APPLICATION.
-/
import Derived.Shelf.Small.Strs
import Derived.Shelf.Strconv.Atoi
import Derived.Shelf.Strconv.Itoa0
import Derived.Shelf.Strconv.Itoa1
import Derived.Shelf.LaysM
import Derived.Shelf.Strconv.Itoa2
import Derived.Shelf.Strconv.Itoa3
import Derived.Shelf.Strconv.AtoiErrFast
import Derived.Shelf.Strconv.ParseIntEmpty
import Derived.Shelf.Strconv.AtoiFail
import Derived.Shelf.Strconv.Clone
import Derived.Shelf.Strconv.SyntaxError
import Derived.Shelf.LaysC
import Derived.Shelf.Strconv.ToError
import Derived.Shelf.Strconv.Lower
import Derived.Shelf.Strconv.ParseUint10
import Derived.Shelf.Strconv.ParseUint10Empty
import Derived.Shelf.Strconv.ParseUint10Any
import Derived.Shelf.Strconv.ParseInt10
import Derived.Shelf.Strconv.AtoiLong
import Derived.Shelf.Strconv.AtoiInnerAll
import Derived.Shelf.Strconv.RangeError
import Derived.Shelf.Strconv.ToErrorRange
import Derived.Shelf.Strconv.AtoiAll
import Derived.Shelf.Strconv.ErrVarAll
import Derived.Shelf.Strconv.ParseUintEmpty
import Derived.Shelf.Strconv.ParseUint10b64
import Derived.Shelf.Strconv.ParseUint10b32
import Derived.Shelf.Strconv.ParseUint10b16
import Derived.Shelf.Strconv.ParseUint10b8
import Derived.Shelf.Strings.Search1
import Derived.Test.YtiboiagimcgjkaaDoorProg
namespace Go.Proofs
open Go.Shelf
def Tryd.laysC172_ren : Go.Shelf.Ren := ⟨fun | 172 => 30 | 244 => 39 | 245 => 40 | 247 => 46 | 279 => 47 | 280 => 48 | 281 => 49 | 282 => 50 | 287 => 53 | 316 => 54 | 171 => 32 | 205 => 31 | 321 => 59 | 322 => 60 | 243 => 41 | 246 => 51 | 283 => 55 | 284 => 56 | 285 => 57 | 286 => 58 | 129 => 62 | 317 => 61 | 318 => 63 | 319 => 64 | 320 => 65 | 337 => 66 | 338 => 67 | n => n, fun | 9 => 9 | 3 => 3 | 75 => 56 | 76 => 57 | 4 => 4 | 5 => 5 | 167 => 97 | 37 => 59 | 0 => 0 | 85 => 98 | 2 => 2 | 168 => 100 | 53 => 104 | 175 => 105 | 46 => 107 | 210 => 110 | 127 => 118 | 145 => 94 | 143 => 92 | 21 => 21 | 171 => 111 | 173 => 114 | 212 => 120 | 51 => 121 | 20 => 20 | 213 => 122 | 232 => 126 | 233 => 127 | 80 => 75 | n => n, fun | 15 => 2 | 16 => 3 | 17 => 4 | 18 => 5 | 19 => 6 | n => n⟩
theorem Tryd.laysC172 : Go.Proofs.LaysC.n172 Tryd.prog Tryd.laysC172_ren := {
  mixed := by kernel_rfl
  f129 := Tryd.func62.trans (congrArg some (by kernel_rfl))
  f171 := Tryd.func32.trans (congrArg some (by kernel_rfl))
  f172 := Tryd.func30.trans (congrArg some (by kernel_rfl))
  f205 := Tryd.func31.trans (congrArg some (by kernel_rfl))
  f243 := Tryd.func41.trans (congrArg some (by kernel_rfl))
  f244 := Tryd.func39.trans (congrArg some (by kernel_rfl))
  f245 := Tryd.func40.trans (congrArg some (by kernel_rfl))
  f246 := Tryd.func51.trans (congrArg some (by kernel_rfl))
  f247 := Tryd.func46.trans (congrArg some (by kernel_rfl))
  f279 := Tryd.func47.trans (congrArg some (by kernel_rfl))
  f280 := Tryd.func48.trans (congrArg some (by kernel_rfl))
  f281 := Tryd.func49.trans (congrArg some (by kernel_rfl))
  f282 := Tryd.func50.trans (congrArg some (by kernel_rfl))
  f283 := Tryd.func55.trans (congrArg some (by kernel_rfl))
  f284 := Tryd.func56.trans (congrArg some (by kernel_rfl))
  f285 := Tryd.func57.trans (congrArg some (by kernel_rfl))
  f286 := Tryd.func58.trans (congrArg some (by kernel_rfl))
  f287 := Tryd.func53.trans (congrArg some (by kernel_rfl))
  f316 := Tryd.func54.trans (congrArg some (by kernel_rfl))
  f317 := Tryd.func61.trans (congrArg some (by kernel_rfl))
  f318 := Tryd.func63.trans (congrArg some (by kernel_rfl))
  f319 := Tryd.func64.trans (congrArg some (by kernel_rfl))
  f320 := Tryd.func65.trans (congrArg some (by kernel_rfl))
  f321 := Tryd.func59.trans (congrArg some (by kernel_rfl))
  f322 := Tryd.func60.trans (congrArg some (by kernel_rfl))
  f337 := Tryd.func66.trans (congrArg some (by kernel_rfl))
  f338 := Tryd.func67.trans (congrArg some (by kernel_rfl))
  t0 := Tryd.underlying0
  a0 := Tryd.isAgg0
  z0 := Tryd.sizeOf0
  v0 := Tryd.zeroValue0
  t2 := Tryd.underlying2
  a2 := Tryd.isAgg2
  z2 := Tryd.sizeOf2
  v2 := Tryd.zeroValue2
  t3 := Tryd.underlying3
  a3 := Tryd.isAgg3
  z3 := Tryd.sizeOf3
  v3 := Tryd.zeroValue3
  t4 := Tryd.underlying4
  a4 := Tryd.isAgg4
  z4 := Tryd.sizeOf4
  v4 := Tryd.zeroValue4
  t5 := Tryd.underlying5
  a5 := Tryd.isAgg5
  z5 := Tryd.sizeOf5
  v5 := Tryd.zeroValue5
  t9 := Tryd.underlying9
  a9 := Tryd.isAgg9
  z9 := Tryd.sizeOf9
  v9 := Tryd.zeroValue9
  t20 := Tryd.underlying20
  a20 := Tryd.isAgg20
  z20 := Tryd.sizeOf20
  v20 := Tryd.zeroValue20
  t21 := Tryd.underlying21
  a21 := Tryd.isAgg21
  z21 := Tryd.sizeOf21
  v21 := Tryd.zeroValue21
  t37 := Tryd.underlying59
  a37 := Tryd.isAgg59
  z37 := Tryd.sizeOf59
  v37 := Tryd.zeroValue59
  t46 := Tryd.underlying107
  a46 := Tryd.isAgg107
  z46 := Tryd.sizeOf107
  v46 := Tryd.zeroValue107
  t51 := Tryd.underlying121
  a51 := Tryd.isAgg121
  z51 := Tryd.sizeOf121
  v51 := Tryd.zeroValue121
  t53 := Tryd.underlying104
  a53 := Tryd.isAgg104
  z53 := Tryd.sizeOf104
  v53 := Tryd.zeroValue104
  t75 := Tryd.underlying56
  a75 := Tryd.isAgg56
  z75 := Tryd.sizeOf56
  v75 := Tryd.zeroValue56
  t76 := Tryd.underlying57
  a76 := Tryd.isAgg57
  z76 := Tryd.sizeOf57
  v76 := Tryd.zeroValue57
  t85 := Tryd.underlying98
  a85 := Tryd.isAgg98
  z85 := Tryd.sizeOf98
  v85 := Tryd.zeroValue98
  t127 := Tryd.underlying118
  a127 := Tryd.isAgg118
  z127 := Tryd.sizeOf118
  v127 := Tryd.zeroValue118
  t143 := Tryd.underlying92
  a143 := Tryd.isAgg92
  z143 := Tryd.sizeOf92
  v143 := Tryd.zeroValue92
  t145 := Tryd.underlying94
  a145 := Tryd.isAgg94
  z145 := Tryd.sizeOf94
  v145 := Tryd.zeroValue94
  t167 := Tryd.underlying97
  a167 := Tryd.isAgg97
  z167 := Tryd.sizeOf97
  v167 := Tryd.zeroValue97
  t168 := Tryd.underlying100
  a168 := Tryd.isAgg100
  z168 := Tryd.sizeOf100
  v168 := Tryd.zeroValue100
  t171 := Tryd.underlying111
  a171 := Tryd.isAgg111
  z171 := Tryd.sizeOf111
  v171 := Tryd.zeroValue111
  t173 := Tryd.underlying114
  a173 := Tryd.isAgg114
  z173 := Tryd.sizeOf114
  v173 := Tryd.zeroValue114
  t175 := Tryd.underlying105
  a175 := Tryd.isAgg105
  z175 := Tryd.sizeOf105
  v175 := Tryd.zeroValue105
  t210 := Tryd.underlying110
  a210 := Tryd.isAgg110
  z210 := Tryd.sizeOf110
  v210 := Tryd.zeroValue110
  t212 := Tryd.underlying120
  a212 := Tryd.isAgg120
  z212 := Tryd.sizeOf120
  v212 := Tryd.zeroValue120
  t213 := Tryd.underlying122
  a213 := Tryd.isAgg122
  z213 := Tryd.sizeOf122
  t232 := Tryd.underlying126
  a232 := Tryd.isAgg126
  z232 := Tryd.sizeOf126
  v232 := Tryd.zeroValue126
  t233 := Tryd.underlying127
  a233 := Tryd.isAgg127
  z233 := Tryd.sizeOf127
  v233 := Tryd.zeroValue127
  g15 := by kernel_rfl
  g16 := by kernel_rfl
  g17 := by kernel_rfl
  g18 := by kernel_rfl
  g19 := by kernel_rfl
  t80 := Tryd.underlying75
  a80 := Tryd.isAgg75
  z80 := Tryd.sizeOf75
  v80 := Tryd.zeroValue75
  i0 := by kernel_rfl
  i2 := by kernel_rfl
  i3 := by kernel_rfl
  i4 := by kernel_rfl
  i5 := by kernel_rfl
  i9 := by kernel_rfl
  i20 := by kernel_rfl
  i21 := by kernel_rfl
  i37 := by kernel_rfl
  i46 := by kernel_rfl
  i51 := by kernel_rfl
  i53 := by kernel_rfl
  i75 := by kernel_rfl
  i76 := by kernel_rfl
  i80 := by kernel_rfl
  i85 := by kernel_rfl
  i127 := by kernel_rfl
  i143 := by kernel_rfl
  i145 := by kernel_rfl
  i167 := by kernel_rfl
  i168 := by kernel_rfl
  i171 := by kernel_rfl
  i173 := by kernel_rfl
  i175 := by kernel_rfl
  i210 := by kernel_rfl
  i212 := by kernel_rfl
  i232 := by kernel_rfl
  i233 := by kernel_rfl
  m15 := by kernel_rfl
  m16 := by kernel_rfl
  m17 := by kernel_rfl
  m18 := by kernel_rfl
  m19 := by kernel_rfl
  c0 := by kernel_rfl
  c2 := by kernel_rfl
  c3 := by kernel_rfl
  c4 := by kernel_rfl
  c5 := by kernel_rfl
  c9 := by kernel_rfl
  c20 := by kernel_rfl
  c21 := by kernel_rfl
  c37 := by kernel_rfl
  c46 := by kernel_rfl
  c51 := by kernel_rfl
  c53 := by kernel_rfl
  c75 := by kernel_rfl
  c76 := by kernel_rfl
  c80 := by kernel_rfl
  c85 := by kernel_rfl
  c127 := by kernel_rfl
  c143 := by kernel_rfl
  c145 := by kernel_rfl
  c167 := by kernel_rfl
  c168 := by kernel_rfl
  c171 := by kernel_rfl
  c173 := by kernel_rfl
  c175 := by kernel_rfl
  c210 := by kernel_rfl
  c212 := by kernel_rfl
  c213 := by kernel_rfl
  c232 := by kernel_rfl
  c233 := by kernel_rfl }
open Go.RowKit in
/-- strconv.Atoi, AT EVERY STRING THAT SPELLS AN int ('Lib.atoiAll .. = .ok v'; of whatever length: leading zeros count): v, AND NO ERROR. The world: as it was, or with the one new row that '[]byte(..)' lays. (LAID: no walk: one application.) -/
theorem Tryd.strconv_Atoi_ok (s : ByteArray) (hmax : s.size ≤ 9223372036854775806) (v : Int) (h : Lib.atoiAll s.data.toList = .ok v) (w : World) :
    Calls Tryd.prog 30 #[.string s] w fun e w' => e = .returned (.tuple #[.int .i64 v, .nilIface]) ∧ (w' = w ∨ ∃ t, w' = Lib.bytesWorld w 5 t) := Any.strconv_Atoi_ok Tryd.laysC172 s hmax v h w
open Go.RowKit in
theorem Tryd.strconv_Atoi_range_var (s : ByteArray) (hlim : s.size ≤ 281474976710656) (h : Lib.atoiAll s.data.toList = .range) (tp : TypeId) (p : Value) (w : World) (hvar : w.var? Tryd.prog "strconv.ErrRange" = some #[.iface tp p]) :
    Calls Tryd.prog 30 #[.string s] w fun e w' => ∃ N, e = .returned (.tuple #[.int .i64 (Lib.atoiSat s.data.toList), .iface 100 (.pointer (some ⟨N, 0, none⟩))]) ∧ w.heap.size ≤ N ∧ w'.heap[N]? = some (.cells #[.string ⟨#[65, 116, 111, 105]⟩, .string s, .iface tp p] 110 (0, 0)) ∧ Below w.heap.size w w' := Any.strconv_Atoi_range_var Tryd.laysC172 s hlim h tp p w hvar
end Go.Proofs
