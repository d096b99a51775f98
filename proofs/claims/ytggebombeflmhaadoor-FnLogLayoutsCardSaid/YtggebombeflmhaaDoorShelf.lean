/-
  DERIVED: THE SHELF's CONTRACTS AT THIS DUMP, IN PLAIN WORDS (tools/lay-plain.mjs out of 'TrydShelfPick.lean', which tools/lay-shelf.mjs wrote): THE SAME DECLARATIONS UNDER THE SAME NAMES: 'import', 'namespace', 'open', 'def', 'theorem' AND NOTHING ELSE: no command of the shelf's: FOR A HAND-IN. Each laying: the table of numbers ('.._ren') and one theorem, a field a fact of the dump's own or the kernel's comparison; each contract: ONE APPLICATION.
-/
import Derived.Shelf.Strconv.Atoi
import Derived.Shelf.Strconv.Itoa0
import Derived.Shelf.Strconv.Itoa1
import Derived.Shelf.LaysM
import Derived.Shelf.Strconv.Itoa2
import Derived.Shelf.Strconv.Itoa3
import Derived.Shelf.Strconv.AtoiErrFast
import Derived.Shelf.Strconv.ParseIntEmpty
import Derived.Shelf.Strconv.AtoiFail
import Derived.Shelf.Strconv.Clone
import Derived.Shelf.Strconv.SyntaxError
import Derived.Shelf.LaysC
import Derived.Shelf.Strconv.ToError
import Derived.Shelf.Strconv.Lower
import Derived.Shelf.Strconv.ParseUint10
import Derived.Shelf.Strconv.ParseUint10Empty
import Derived.Shelf.Strconv.ParseUint10Any
import Derived.Shelf.Strconv.ParseInt10
import Derived.Shelf.Strconv.AtoiLong
import Derived.Shelf.Strconv.AtoiInnerAll
import Derived.Shelf.Strconv.RangeError
import Derived.Shelf.Strconv.ToErrorRange
import Derived.Shelf.Strconv.AtoiAll
import Derived.Shelf.Strconv.ErrVarAll
import Derived.Shelf.Strconv.ParseUintEmpty
import Derived.Shelf.Strconv.ParseUint10b64
import Derived.Shelf.Strconv.ParseUint10b32
import Derived.Shelf.Strconv.ParseUint10b16
import Derived.Shelf.Strconv.ParseUint10b8
import Derived.Test.YtggebombeflmhaaDoorProg
namespace Go.Proofs
open Go.Shelf
def Tryd.laysC172_ren : Go.Shelf.Ren := ⟨fun | 172 => 24 | 244 => 41 | 245 => 42 | 247 => 59 | 279 => 60 | 280 => 61 | 281 => 62 | 282 => 63 | 287 => 67 | 316 => 68 | 171 => 26 | 205 => 25 | 321 => 73 | 322 => 74 | 243 => 43 | 246 => 64 | 283 => 69 | 284 => 70 | 285 => 71 | 286 => 72 | 129 => 76 | 317 => 75 | 318 => 77 | 319 => 78 | 320 => 79 | 337 => 80 | 338 => 81 | n => n, fun | 9 => 9 | 3 => 3 | 75 => 49 | 76 => 55 | 4 => 4 | 5 => 5 | 167 => 108 | 37 => 43 | 0 => 0 | 85 => 109 | 2 => 2 | 168 => 111 | 53 => 37 | 175 => 117 | 46 => 96 | 210 => 120 | 127 => 127 | 145 => 82 | 143 => 80 | 21 => 21 | 171 => 121 | 173 => 124 | 212 => 129 | 51 => 114 | 20 => 20 | 213 => 130 | 232 => 134 | 233 => 44 | 80 => 52 | n => n, fun | 15 => 3 | 16 => 4 | 17 => 5 | 18 => 6 | 19 => 7 | n => n⟩
theorem Tryd.laysC172 : Go.Proofs.LaysC.n172 Tryd.prog Tryd.laysC172_ren := {
  mixed := by kernel_rfl
  f129 := Tryd.func76.trans (congrArg some (by kernel_rfl))
  f171 := Tryd.func26.trans (congrArg some (by kernel_rfl))
  f172 := Tryd.func24.trans (congrArg some (by kernel_rfl))
  f205 := Tryd.func25.trans (congrArg some (by kernel_rfl))
  f243 := Tryd.func43.trans (congrArg some (by kernel_rfl))
  f244 := Tryd.func41.trans (congrArg some (by kernel_rfl))
  f245 := Tryd.func42.trans (congrArg some (by kernel_rfl))
  f246 := Tryd.func64.trans (congrArg some (by kernel_rfl))
  f247 := Tryd.func59.trans (congrArg some (by kernel_rfl))
  f279 := Tryd.func60.trans (congrArg some (by kernel_rfl))
  f280 := Tryd.func61.trans (congrArg some (by kernel_rfl))
  f281 := Tryd.func62.trans (congrArg some (by kernel_rfl))
  f282 := Tryd.func63.trans (congrArg some (by kernel_rfl))
  f283 := Tryd.func69.trans (congrArg some (by kernel_rfl))
  f284 := Tryd.func70.trans (congrArg some (by kernel_rfl))
  f285 := Tryd.func71.trans (congrArg some (by kernel_rfl))
  f286 := Tryd.func72.trans (congrArg some (by kernel_rfl))
  f287 := Tryd.func67.trans (congrArg some (by kernel_rfl))
  f316 := Tryd.func68.trans (congrArg some (by kernel_rfl))
  f317 := Tryd.func75.trans (congrArg some (by kernel_rfl))
  f318 := Tryd.func77.trans (congrArg some (by kernel_rfl))
  f319 := Tryd.func78.trans (congrArg some (by kernel_rfl))
  f320 := Tryd.func79.trans (congrArg some (by kernel_rfl))
  f321 := Tryd.func73.trans (congrArg some (by kernel_rfl))
  f322 := Tryd.func74.trans (congrArg some (by kernel_rfl))
  f337 := Tryd.func80.trans (congrArg some (by kernel_rfl))
  f338 := Tryd.func81.trans (congrArg some (by kernel_rfl))
  t0 := Tryd.underlying0
  a0 := Tryd.isAgg0
  z0 := Tryd.sizeOf0
  v0 := Tryd.zeroValue0
  t2 := Tryd.underlying2
  a2 := Tryd.isAgg2
  z2 := Tryd.sizeOf2
  v2 := Tryd.zeroValue2
  t3 := Tryd.underlying3
  a3 := Tryd.isAgg3
  z3 := Tryd.sizeOf3
  v3 := Tryd.zeroValue3
  t4 := Tryd.underlying4
  a4 := Tryd.isAgg4
  z4 := Tryd.sizeOf4
  v4 := Tryd.zeroValue4
  t5 := Tryd.underlying5
  a5 := Tryd.isAgg5
  z5 := Tryd.sizeOf5
  v5 := Tryd.zeroValue5
  t9 := Tryd.underlying9
  a9 := Tryd.isAgg9
  z9 := Tryd.sizeOf9
  v9 := Tryd.zeroValue9
  t20 := Tryd.underlying20
  a20 := Tryd.isAgg20
  z20 := Tryd.sizeOf20
  v20 := Tryd.zeroValue20
  t21 := Tryd.underlying21
  a21 := Tryd.isAgg21
  z21 := Tryd.sizeOf21
  v21 := Tryd.zeroValue21
  t37 := Tryd.underlying43
  a37 := Tryd.isAgg43
  z37 := Tryd.sizeOf43
  v37 := Tryd.zeroValue43
  t46 := Tryd.underlying96
  a46 := Tryd.isAgg96
  z46 := Tryd.sizeOf96
  v46 := Tryd.zeroValue96
  t51 := Tryd.underlying114
  a51 := Tryd.isAgg114
  z51 := Tryd.sizeOf114
  v51 := Tryd.zeroValue114
  t53 := Tryd.underlying37
  a53 := Tryd.isAgg37
  z53 := Tryd.sizeOf37
  v53 := Tryd.zeroValue37
  t75 := Tryd.underlying49
  a75 := Tryd.isAgg49
  z75 := Tryd.sizeOf49
  v75 := Tryd.zeroValue49
  t76 := Tryd.underlying55
  a76 := Tryd.isAgg55
  z76 := Tryd.sizeOf55
  v76 := Tryd.zeroValue55
  t85 := Tryd.underlying109
  a85 := Tryd.isAgg109
  z85 := Tryd.sizeOf109
  v85 := Tryd.zeroValue109
  t127 := Tryd.underlying127
  a127 := Tryd.isAgg127
  z127 := Tryd.sizeOf127
  v127 := Tryd.zeroValue127
  t143 := Tryd.underlying80
  a143 := Tryd.isAgg80
  z143 := Tryd.sizeOf80
  v143 := Tryd.zeroValue80
  t145 := Tryd.underlying82
  a145 := Tryd.isAgg82
  z145 := Tryd.sizeOf82
  v145 := Tryd.zeroValue82
  t167 := Tryd.underlying108
  a167 := Tryd.isAgg108
  z167 := Tryd.sizeOf108
  v167 := Tryd.zeroValue108
  t168 := Tryd.underlying111
  a168 := Tryd.isAgg111
  z168 := Tryd.sizeOf111
  v168 := Tryd.zeroValue111
  t171 := Tryd.underlying121
  a171 := Tryd.isAgg121
  z171 := Tryd.sizeOf121
  v171 := Tryd.zeroValue121
  t173 := Tryd.underlying124
  a173 := Tryd.isAgg124
  z173 := Tryd.sizeOf124
  v173 := Tryd.zeroValue124
  t175 := Tryd.underlying117
  a175 := Tryd.isAgg117
  z175 := Tryd.sizeOf117
  v175 := Tryd.zeroValue117
  t210 := Tryd.underlying120
  a210 := Tryd.isAgg120
  z210 := Tryd.sizeOf120
  v210 := Tryd.zeroValue120
  t212 := Tryd.underlying129
  a212 := Tryd.isAgg129
  z212 := Tryd.sizeOf129
  v212 := Tryd.zeroValue129
  t213 := Tryd.underlying130
  a213 := Tryd.isAgg130
  z213 := Tryd.sizeOf130
  t232 := Tryd.underlying134
  a232 := Tryd.isAgg134
  z232 := Tryd.sizeOf134
  v232 := Tryd.zeroValue134
  t233 := Tryd.underlying44
  a233 := Tryd.isAgg44
  z233 := Tryd.sizeOf44
  v233 := Tryd.zeroValue44
  g15 := by kernel_rfl
  g16 := by kernel_rfl
  g17 := by kernel_rfl
  g18 := by kernel_rfl
  g19 := by kernel_rfl
  t80 := Tryd.underlying52
  a80 := Tryd.isAgg52
  z80 := Tryd.sizeOf52
  v80 := Tryd.zeroValue52
  i0 := by kernel_rfl
  i2 := by kernel_rfl
  i3 := by kernel_rfl
  i4 := by kernel_rfl
  i5 := by kernel_rfl
  i9 := by kernel_rfl
  i20 := by kernel_rfl
  i21 := by kernel_rfl
  i37 := by kernel_rfl
  i46 := by kernel_rfl
  i51 := by kernel_rfl
  i53 := by kernel_rfl
  i75 := by kernel_rfl
  i76 := by kernel_rfl
  i80 := by kernel_rfl
  i85 := by kernel_rfl
  i127 := by kernel_rfl
  i143 := by kernel_rfl
  i145 := by kernel_rfl
  i167 := by kernel_rfl
  i168 := by kernel_rfl
  i171 := by kernel_rfl
  i173 := by kernel_rfl
  i175 := by kernel_rfl
  i210 := by kernel_rfl
  i212 := by kernel_rfl
  i232 := by kernel_rfl
  i233 := by kernel_rfl
  m15 := by kernel_rfl
  m16 := by kernel_rfl
  m17 := by kernel_rfl
  m18 := by kernel_rfl
  m19 := by kernel_rfl
  c0 := by kernel_rfl
  c2 := by kernel_rfl
  c3 := by kernel_rfl
  c4 := by kernel_rfl
  c5 := by kernel_rfl
  c9 := by kernel_rfl
  c20 := by kernel_rfl
  c21 := by kernel_rfl
  c37 := by kernel_rfl
  c46 := by kernel_rfl
  c51 := by kernel_rfl
  c53 := by kernel_rfl
  c75 := by kernel_rfl
  c76 := by kernel_rfl
  c80 := by kernel_rfl
  c85 := by kernel_rfl
  c127 := by kernel_rfl
  c143 := by kernel_rfl
  c145 := by kernel_rfl
  c167 := by kernel_rfl
  c168 := by kernel_rfl
  c171 := by kernel_rfl
  c173 := by kernel_rfl
  c175 := by kernel_rfl
  c210 := by kernel_rfl
  c212 := by kernel_rfl
  c213 := by kernel_rfl
  c232 := by kernel_rfl
  c233 := by kernel_rfl }
open Go.RowKit in
/-- strconv.Atoi, AT EVERY STRING THAT SPELLS AN int ('Lib.atoiAll .. = .ok v'; of whatever length: leading zeros count): v, AND NO ERROR. The world: as it was, or with the one new row that '[]byte(..)' lays. (LAID: no walk: one application.) -/
theorem Tryd.strconv_Atoi_ok (s : ByteArray) (hmax : s.size ≤ 9223372036854775806) (v : Int) (h : Lib.atoiAll s.data.toList = .ok v) (w : World) :
    Calls Tryd.prog 24 #[.string s] w fun e w' => e = .returned (.tuple #[.int .i64 v, .nilIface]) ∧ (w' = w ∨ ∃ t, w' = Lib.bytesWorld w 5 t) := Any.strconv_Atoi_ok Tryd.laysC172 s hmax v h w
open Go.RowKit in
theorem Tryd.strconv_Atoi_range_var (s : ByteArray) (hlim : s.size ≤ 281474976710656) (h : Lib.atoiAll s.data.toList = .range) (tp : TypeId) (p : Value) (w : World) (hvar : w.var? Tryd.prog "strconv.ErrRange" = some #[.iface tp p]) :
    Calls Tryd.prog 24 #[.string s] w fun e w' => ∃ N, e = .returned (.tuple #[.int .i64 (Lib.atoiSat s.data.toList), .iface 111 (.pointer (some ⟨N, 0, none⟩))]) ∧ w.heap.size ≤ N ∧ w'.heap[N]? = some (.cells #[.string ⟨#[65, 116, 111, 105]⟩, .string s, .iface tp p] 120 (0, 0)) ∧ Below w.heap.size w w' := Any.strconv_Atoi_range_var Tryd.laysC172 s hlim h tp p w hvar
end Go.Proofs
