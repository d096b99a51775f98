/-
  DERIVED: THE SHELF's CONTRACTS AT THIS DUMP, IN PLAIN WORDS (tools/lay-plain.mjs out of 'TryzShelfP.lean', which tools/lay-shelf.mjs wrote): THE SAME DECLARATIONS UNDER THE SAME NAMES: 'import', 'namespace', 'open', 'def', 'theorem' AND NOTHING ELSE: no command of the shelf's: FOR A HAND-IN. Each laying: the table of numbers ('.._ren') and one theorem, a field a fact of the dump's own or the kernel's comparison; each contract: ONE APPLICATION.
-/
import Derived.Shelf.Strconv.Atoi
import Derived.Shelf.Strconv.Itoa0
import Derived.Shelf.Strconv.Itoa1
import Derived.Shelf.LaysM
import Derived.Shelf.Strconv.Itoa2
import Derived.Shelf.Strconv.Itoa3
import Derived.Shelf.Strconv.AtoiErrFast
import Derived.Shelf.Strconv.ParseIntEmpty
import Derived.Shelf.Strconv.AtoiFail
import Derived.Shelf.Strconv.Clone
import Derived.Shelf.Strconv.SyntaxError
import Derived.Shelf.LaysC
import Derived.Shelf.Strconv.ToError
import Derived.Shelf.Strconv.Lower
import Derived.Shelf.Strconv.ParseUint10
import Derived.Shelf.Strconv.ParseUint10Empty
import Derived.Shelf.Strconv.ParseUint10Any
import Derived.Shelf.Strconv.ParseInt10
import Derived.Shelf.Strconv.AtoiLong
import Derived.Shelf.Strconv.AtoiInnerAll
import Derived.Shelf.Strconv.RangeError
import Derived.Shelf.Strconv.ToErrorRange
import Derived.Shelf.Strconv.AtoiAll
import Derived.Shelf.Strconv.ErrVarAll
import Derived.Shelf.Strconv.ParseUintEmpty
import Derived.Shelf.Strconv.ParseUint10b64
import Derived.Shelf.Strconv.ParseUint10b32
import Derived.Shelf.Strconv.ParseUint10b16
import Derived.Shelf.Strconv.ParseUint10b8
import Derived.Shelf.Unicode.Decode
import Derived.Shelf.Unicode.DecodeSlow
import Derived.Shelf.Unicode.DecodeAny
import Derived.Test.YtpenbgiobeebiaaGreatDoorProg
namespace Go.Proofs
open Go.Shelf
def Tryz.laysC172_ren : Go.Shelf.Ren := ⟨fun | 172 => 29 | 244 => 35 | 245 => 36 | 247 => 38 | 279 => 39 | 280 => 40 | 281 => 41 | 282 => 42 | 287 => 44 | 316 => 45 | 171 => 31 | 205 => 30 | 321 => 50 | 322 => 51 | 243 => 37 | 246 => 43 | 283 => 46 | 284 => 47 | 285 => 48 | 286 => 49 | 129 => 53 | 317 => 52 | 318 => 54 | 319 => 55 | 320 => 56 | 337 => 57 | 338 => 58 | n => n, fun | 9 => 9 | 3 => 3 | 75 => 68 | 76 => 84 | 4 => 4 | 5 => 5 | 167 => 96 | 37 => 45 | 0 => 0 | 85 => 97 | 2 => 2 | 168 => 99 | 53 => 103 | 175 => 104 | 46 => 106 | 210 => 109 | 127 => 117 | 145 => 95 | 143 => 93 | 21 => 21 | 171 => 110 | 173 => 113 | 212 => 120 | 51 => 121 | 20 => 20 | 213 => 122 | 232 => 126 | 233 => 127 | 80 => 71 | n => n, fun | 15 => 0 | 16 => 1 | 17 => 2 | 18 => 3 | 19 => 4 | n => n⟩
theorem Tryz.laysC172 : Go.Proofs.LaysC.n172 Tryz.prog Tryz.laysC172_ren := {
  mixed := by kernel_rfl
  f129 := Tryz.func53.trans (congrArg some (by kernel_rfl))
  f171 := Tryz.func31.trans (congrArg some (by kernel_rfl))
  f172 := Tryz.func29.trans (congrArg some (by kernel_rfl))
  f205 := Tryz.func30.trans (congrArg some (by kernel_rfl))
  f243 := Tryz.func37.trans (congrArg some (by kernel_rfl))
  f244 := Tryz.func35.trans (congrArg some (by kernel_rfl))
  f245 := Tryz.func36.trans (congrArg some (by kernel_rfl))
  f246 := Tryz.func43.trans (congrArg some (by kernel_rfl))
  f247 := Tryz.func38.trans (congrArg some (by kernel_rfl))
  f279 := Tryz.func39.trans (congrArg some (by kernel_rfl))
  f280 := Tryz.func40.trans (congrArg some (by kernel_rfl))
  f281 := Tryz.func41.trans (congrArg some (by kernel_rfl))
  f282 := Tryz.func42.trans (congrArg some (by kernel_rfl))
  f283 := Tryz.func46.trans (congrArg some (by kernel_rfl))
  f284 := Tryz.func47.trans (congrArg some (by kernel_rfl))
  f285 := Tryz.func48.trans (congrArg some (by kernel_rfl))
  f286 := Tryz.func49.trans (congrArg some (by kernel_rfl))
  f287 := Tryz.func44.trans (congrArg some (by kernel_rfl))
  f316 := Tryz.func45.trans (congrArg some (by kernel_rfl))
  f317 := Tryz.func52.trans (congrArg some (by kernel_rfl))
  f318 := Tryz.func54.trans (congrArg some (by kernel_rfl))
  f319 := Tryz.func55.trans (congrArg some (by kernel_rfl))
  f320 := Tryz.func56.trans (congrArg some (by kernel_rfl))
  f321 := Tryz.func50.trans (congrArg some (by kernel_rfl))
  f322 := Tryz.func51.trans (congrArg some (by kernel_rfl))
  f337 := Tryz.func57.trans (congrArg some (by kernel_rfl))
  f338 := Tryz.func58.trans (congrArg some (by kernel_rfl))
  t0 := Tryz.underlying0
  a0 := Tryz.isAgg0
  z0 := Tryz.sizeOf0
  v0 := Tryz.zeroValue0
  t2 := Tryz.underlying2
  a2 := Tryz.isAgg2
  z2 := Tryz.sizeOf2
  v2 := Tryz.zeroValue2
  t3 := Tryz.underlying3
  a3 := Tryz.isAgg3
  z3 := Tryz.sizeOf3
  v3 := Tryz.zeroValue3
  t4 := Tryz.underlying4
  a4 := Tryz.isAgg4
  z4 := Tryz.sizeOf4
  v4 := Tryz.zeroValue4
  t5 := Tryz.underlying5
  a5 := Tryz.isAgg5
  z5 := Tryz.sizeOf5
  v5 := Tryz.zeroValue5
  t9 := Tryz.underlying9
  a9 := Tryz.isAgg9
  z9 := Tryz.sizeOf9
  v9 := Tryz.zeroValue9
  t20 := Tryz.underlying20
  a20 := Tryz.isAgg20
  z20 := Tryz.sizeOf20
  v20 := Tryz.zeroValue20
  t21 := Tryz.underlying21
  a21 := Tryz.isAgg21
  z21 := Tryz.sizeOf21
  v21 := Tryz.zeroValue21
  t37 := Tryz.underlying45
  a37 := Tryz.isAgg45
  z37 := Tryz.sizeOf45
  v37 := Tryz.zeroValue45
  t46 := Tryz.underlying106
  a46 := Tryz.isAgg106
  z46 := Tryz.sizeOf106
  v46 := Tryz.zeroValue106
  t51 := Tryz.underlying121
  a51 := Tryz.isAgg121
  z51 := Tryz.sizeOf121
  v51 := Tryz.zeroValue121
  t53 := Tryz.underlying103
  a53 := Tryz.isAgg103
  z53 := Tryz.sizeOf103
  v53 := Tryz.zeroValue103
  t75 := Tryz.underlying68
  a75 := Tryz.isAgg68
  z75 := Tryz.sizeOf68
  v75 := Tryz.zeroValue68
  t76 := Tryz.underlying84
  a76 := Tryz.isAgg84
  z76 := Tryz.sizeOf84
  v76 := Tryz.zeroValue84
  t85 := Tryz.underlying97
  a85 := Tryz.isAgg97
  z85 := Tryz.sizeOf97
  v85 := Tryz.zeroValue97
  t127 := Tryz.underlying117
  a127 := Tryz.isAgg117
  z127 := Tryz.sizeOf117
  v127 := Tryz.zeroValue117
  t143 := Tryz.underlying93
  a143 := Tryz.isAgg93
  z143 := Tryz.sizeOf93
  v143 := Tryz.zeroValue93
  t145 := Tryz.underlying95
  a145 := Tryz.isAgg95
  z145 := Tryz.sizeOf95
  v145 := Tryz.zeroValue95
  t167 := Tryz.underlying96
  a167 := Tryz.isAgg96
  z167 := Tryz.sizeOf96
  v167 := Tryz.zeroValue96
  t168 := Tryz.underlying99
  a168 := Tryz.isAgg99
  z168 := Tryz.sizeOf99
  v168 := Tryz.zeroValue99
  t171 := Tryz.underlying110
  a171 := Tryz.isAgg110
  z171 := Tryz.sizeOf110
  v171 := Tryz.zeroValue110
  t173 := Tryz.underlying113
  a173 := Tryz.isAgg113
  z173 := Tryz.sizeOf113
  v173 := Tryz.zeroValue113
  t175 := Tryz.underlying104
  a175 := Tryz.isAgg104
  z175 := Tryz.sizeOf104
  v175 := Tryz.zeroValue104
  t210 := Tryz.underlying109
  a210 := Tryz.isAgg109
  z210 := Tryz.sizeOf109
  v210 := Tryz.zeroValue109
  t212 := Tryz.underlying120
  a212 := Tryz.isAgg120
  z212 := Tryz.sizeOf120
  v212 := Tryz.zeroValue120
  t213 := Tryz.underlying122
  a213 := Tryz.isAgg122
  z213 := Tryz.sizeOf122
  t232 := Tryz.underlying126
  a232 := Tryz.isAgg126
  z232 := Tryz.sizeOf126
  v232 := Tryz.zeroValue126
  t233 := Tryz.underlying127
  a233 := Tryz.isAgg127
  z233 := Tryz.sizeOf127
  v233 := Tryz.zeroValue127
  g15 := by kernel_rfl
  g16 := by kernel_rfl
  g17 := by kernel_rfl
  g18 := by kernel_rfl
  g19 := by kernel_rfl
  t80 := Tryz.underlying71
  a80 := Tryz.isAgg71
  z80 := Tryz.sizeOf71
  v80 := Tryz.zeroValue71
  i0 := by kernel_rfl
  i2 := by kernel_rfl
  i3 := by kernel_rfl
  i4 := by kernel_rfl
  i5 := by kernel_rfl
  i9 := by kernel_rfl
  i20 := by kernel_rfl
  i21 := by kernel_rfl
  i37 := by kernel_rfl
  i46 := by kernel_rfl
  i51 := by kernel_rfl
  i53 := by kernel_rfl
  i75 := by kernel_rfl
  i76 := by kernel_rfl
  i80 := by kernel_rfl
  i85 := by kernel_rfl
  i127 := by kernel_rfl
  i143 := by kernel_rfl
  i145 := by kernel_rfl
  i167 := by kernel_rfl
  i168 := by kernel_rfl
  i171 := by kernel_rfl
  i173 := by kernel_rfl
  i175 := by kernel_rfl
  i210 := by kernel_rfl
  i212 := by kernel_rfl
  i232 := by kernel_rfl
  i233 := by kernel_rfl
  m15 := by kernel_rfl
  m16 := by kernel_rfl
  m17 := by kernel_rfl
  m18 := by kernel_rfl
  m19 := by kernel_rfl
  c0 := by kernel_rfl
  c2 := by kernel_rfl
  c3 := by kernel_rfl
  c4 := by kernel_rfl
  c5 := by kernel_rfl
  c9 := by kernel_rfl
  c20 := by kernel_rfl
  c21 := by kernel_rfl
  c37 := by kernel_rfl
  c46 := by kernel_rfl
  c51 := by kernel_rfl
  c53 := by kernel_rfl
  c75 := by kernel_rfl
  c76 := by kernel_rfl
  c80 := by kernel_rfl
  c85 := by kernel_rfl
  c127 := by kernel_rfl
  c143 := by kernel_rfl
  c145 := by kernel_rfl
  c167 := by kernel_rfl
  c168 := by kernel_rfl
  c171 := by kernel_rfl
  c173 := by kernel_rfl
  c175 := by kernel_rfl
  c210 := by kernel_rfl
  c212 := by kernel_rfl
  c213 := by kernel_rfl
  c232 := by kernel_rfl
  c233 := by kernel_rfl }
open Go.RowKit in
/-- strconv.Atoi, AT EVERY STRING THAT SPELLS AN int ('Lib.atoiAll .. = .ok v'; of whatever length: leading zeros count): v, AND NO ERROR. The world: as it was, or with the one new row that '[]byte(..)' lays. (LAID: no walk: one application.) -/
theorem Tryz.strconv_Atoi_ok (s : ByteArray) (hmax : s.size ≤ 9223372036854775806) (v : Int) (h : Lib.atoiAll s.data.toList = .ok v) (w : World) :
    Calls Tryz.prog 29 #[.string s] w fun e w' => e = .returned (.tuple #[.int .i64 v, .nilIface]) ∧ (w' = w ∨ ∃ t, w' = Lib.bytesWorld w 5 t) := Any.strconv_Atoi_ok Tryz.laysC172 s hmax v h w
open Go.RowKit in
theorem Tryz.strconv_Atoi_range_var (s : ByteArray) (hlim : s.size ≤ 281474976710656) (h : Lib.atoiAll s.data.toList = .range) (tp : TypeId) (p : Value) (w : World) (hvar : w.var? Tryz.prog "strconv.ErrRange" = some #[.iface tp p]) :
    Calls Tryz.prog 29 #[.string s] w fun e w' => ∃ N, e = .returned (.tuple #[.int .i64 (Lib.atoiSat s.data.toList), .iface 99 (.pointer (some ⟨N, 0, none⟩))]) ∧ w.heap.size ≤ N ∧ w'.heap[N]? = some (.cells #[.string ⟨#[65, 116, 111, 105]⟩, .string s, .iface tp p] 109 (0, 0)) ∧ Below w.heap.size w w' := Any.strconv_Atoi_range_var Tryz.laysC172 s hlim h tp p w hvar
end Go.Proofs
