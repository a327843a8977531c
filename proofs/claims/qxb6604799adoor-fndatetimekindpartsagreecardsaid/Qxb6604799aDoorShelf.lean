/-
  The library's contracts that this proof uses, laid at this seat's translation by the kit's lay-shelf and lay-plain (their remarks struck).
-/
import Derived.Shelf.Strings.Trim
import Derived.Shelf.Small.Utf8
import Derived.Shelf.Small.Strs
import Derived.Shelf.Small.Wraps
import Derived.Shelf.Strconv.Atoi
import Derived.Shelf.Strconv.Itoa0
import Derived.Shelf.Strconv.AtoiErrFast
import Derived.Shelf.Strconv.ParseIntEmpty
import Derived.Shelf.Strconv.AtoiFail
import Derived.Shelf.LaysM
import Derived.Shelf.Strconv.Clone
import Derived.Shelf.Strconv.SyntaxError
import Derived.Shelf.LaysC
import Derived.Shelf.Strconv.ToError
import Derived.Shelf.Strconv.Lower
import Derived.Shelf.Strconv.ParseUint10
import Derived.Shelf.Strconv.ParseUint10Empty
import Derived.Shelf.Strconv.ParseUint10Any
import Derived.Shelf.Strconv.ParseInt10
import Derived.Shelf.Strconv.AtoiLong
import Derived.Shelf.Strconv.AtoiInnerAll
import Derived.Shelf.Strconv.RangeError
import Derived.Shelf.Strconv.ToErrorRange
import Derived.Shelf.Strconv.AtoiAll
import Derived.Shelf.Strconv.ErrVarAll
import Derived.Shelf.Strconv.ParseUintEmpty
import Derived.Shelf.Strconv.ParseUint10b64
import Derived.Shelf.Strconv.ParseUint10b32
import Derived.Shelf.Strconv.ParseUint10b16
import Derived.Shelf.Strconv.ParseUint10b8
import Derived.Shelf.Strconv.ParseUint10At
import Derived.Shelf.Strconv.ParseInt10At64
import Derived.Shelf.Strconv.ParseInt10At32
import Derived.Shelf.Strconv.ParseInt10At16
import Derived.Shelf.Strconv.ParseInt10At8
import Derived.Shelf.Strconv.ParseInt10All
import Derived.Shelf.Strings.Search1
import Derived.Shelf.Strings.Prefix
import Derived.Shelf.Strings.Runes
import Derived.Shelf.Strings.AsciiSet
import Derived.Shelf.Unicode.DecodeSlow
import Derived.Test.Qxb6604799aDoorProg
namespace Go.Proofs
open Go.Shelf
def Tryd.lays161_ren : Go.Shelf.Ren := ⟨fun | 161 => 26 | 231 => 30 | 227 => 31 | 233 => 32 | 235 => 33 | 228 => 40 | 197 => 41 | 151 => 42 | 260 => 47 | 152 => 48 | 137 => 22 | 119 => 52 | 224 => 53 | 225 => 54 | 217 => 27 | 266 => 34 | n => n, fun | 9 => 9 | 4 => 4 | 3 => 3 | 5 => 5 | 117 => 44 | 116 => 43 | 0 => 0 | 124 => 47 | 105 => 55 | 21 => 21 | 119 => 73 | 46 => 61 | 139 => 76 | 138 => 75 | n => n, fun | 3 => 3 | 4 => 4 | n => n⟩
theorem Tryd.lays161 : Go.Proofs.Lays.n161 Tryd.prog Tryd.lays161_ren := {
  mixed := by kernel_rfl
  f119 := Tryd.func52.trans (congrArg some (by kernel_rfl))
  f137 := Tryd.func22.trans (congrArg some (by kernel_rfl))
  f151 := Tryd.func42.trans (congrArg some (by kernel_rfl))
  f152 := Tryd.func48.trans (congrArg some (by kernel_rfl))
  f161 := Tryd.func26.trans (congrArg some (by kernel_rfl))
  f197 := Tryd.func41.trans (congrArg some (by kernel_rfl))
  f217 := Tryd.func27.trans (congrArg some (by kernel_rfl))
  f224 := Tryd.func53.trans (congrArg some (by kernel_rfl))
  f225 := Tryd.func54.trans (congrArg some (by kernel_rfl))
  f227 := Tryd.func31.trans (congrArg some (by kernel_rfl))
  f228 := Tryd.func40.trans (congrArg some (by kernel_rfl))
  f231 := Tryd.func30.trans (congrArg some (by kernel_rfl))
  f233 := Tryd.func32.trans (congrArg some (by kernel_rfl))
  f235 := Tryd.func33.trans (congrArg some (by kernel_rfl))
  f260 := Tryd.func47.trans (congrArg some (by kernel_rfl))
  f266 := Tryd.func34.trans (congrArg some (by kernel_rfl))
  t0 := Tryd.underlying0
  a0 := Tryd.isAgg0
  z0 := Tryd.sizeOf0
  v0 := Tryd.zeroValue0
  t3 := Tryd.underlying3
  a3 := Tryd.isAgg3
  z3 := Tryd.sizeOf3
  v3 := Tryd.zeroValue3
  t4 := Tryd.underlying4
  a4 := Tryd.isAgg4
  z4 := Tryd.sizeOf4
  v4 := Tryd.zeroValue4
  t5 := Tryd.underlying5
  a5 := Tryd.isAgg5
  z5 := Tryd.sizeOf5
  v5 := Tryd.zeroValue5
  t9 := Tryd.underlying9
  a9 := Tryd.isAgg9
  z9 := Tryd.sizeOf9
  v9 := Tryd.zeroValue9
  t21 := Tryd.underlying21
  a21 := Tryd.isAgg21
  z21 := Tryd.sizeOf21
  v21 := Tryd.zeroValue21
  t46 := Tryd.underlying61
  a46 := Tryd.isAgg61
  z46 := Tryd.sizeOf61
  v46 := Tryd.zeroValue61
  t105 := Tryd.underlying55
  a105 := Tryd.isAgg55
  z105 := Tryd.sizeOf55
  v105 := Tryd.zeroValue55
  t116 := Tryd.underlying43
  a116 := Tryd.isAgg43
  z116 := Tryd.sizeOf43
  t117 := Tryd.underlying44
  a117 := Tryd.isAgg44
  z117 := Tryd.sizeOf44
  v117 := Tryd.zeroValue44
  t119 := Tryd.underlying73
  a119 := Tryd.isAgg73
  z119 := Tryd.sizeOf73
  t124 := Tryd.underlying47
  a124 := Tryd.isAgg47
  z124 := Tryd.sizeOf47
  v124 := Tryd.zeroValue47
  t138 := Tryd.underlying75
  a138 := Tryd.isAgg75
  z138 := Tryd.sizeOf75
  v138 := Tryd.zeroValue75
  t139 := Tryd.underlying76
  a139 := Tryd.isAgg76
  z139 := Tryd.sizeOf76
  v139 := Tryd.zeroValue76
  g3 := by kernel_rfl
  g4 := by kernel_rfl }
open Go.RowKit in
theorem Tryd.strings_TrimLeft_one (s : ByteArray) (c : UInt8) (hc : c.toNat < 128) (w : World) :
    Calls Tryd.prog 26 #[.string s, .string ⟨#[c]⟩] w fun e w' => e = .returned (.string ⟨(Lib.trimLeftB s.data.toList c).toArray⟩) ∧ w' = w := Any.strings_TrimLeft_one Tryd.lays161 s c hc w
def Tryd.lays137_ren : Go.Shelf.Ren := ⟨fun | 137 => 22 | 217 => 27 | 266 => 34 | n => n, fun | 9 => 9 | 5 => 5 | 3 => 3 | n => n, fun | n => n⟩
theorem Tryd.lays137 : Go.Proofs.Lays.n137 Tryd.prog Tryd.lays137_ren := {
  mixed := by kernel_rfl
  f137 := Tryd.func22.trans (congrArg some (by kernel_rfl))
  f217 := Tryd.func27.trans (congrArg some (by kernel_rfl))
  f266 := Tryd.func34.trans (congrArg some (by kernel_rfl))
  t3 := Tryd.underlying3
  a3 := Tryd.isAgg3
  z3 := Tryd.sizeOf3
  v3 := Tryd.zeroValue3
  t5 := Tryd.underlying5
  a5 := Tryd.isAgg5
  z5 := Tryd.sizeOf5
  v5 := Tryd.zeroValue5
  t9 := Tryd.underlying9
  a9 := Tryd.isAgg9
  z9 := Tryd.sizeOf9
  v9 := Tryd.zeroValue9 }
open Go.RowKit in
theorem Tryd.strings_IndexByte (s : ByteArray) (c : Int) (w : World) :
    Calls Tryd.prog 22 #[.string s, .int .u8 c] w fun e w' => e = .returned (.int .i64 (Lib.indexByte s.data.toList c.toNat.toUInt8)) ∧ w' = w := Any.strings_IndexByte Tryd.lays137 s c w
def Tryd.lays103_ren : Go.Shelf.Ren := ⟨fun | 103 => 18 | 210 => 25 | 206 => 24 | n => n, fun | 9 => 9 | 4 => 4 | 24 => 23 | 3 => 3 | n => n, fun | n => n⟩
theorem Tryd.lays103 : Go.Proofs.Lays.n103 Tryd.prog Tryd.lays103_ren := {
  mixed := by kernel_rfl
  f103 := Tryd.func18.trans (congrArg some (by kernel_rfl))
  f206 := Tryd.func24.trans (congrArg some (by kernel_rfl))
  f210 := Tryd.func25.trans (congrArg some (by kernel_rfl))
  t3 := Tryd.underlying3
  a3 := Tryd.isAgg3
  z3 := Tryd.sizeOf3
  v3 := Tryd.zeroValue3
  t4 := Tryd.underlying4
  a4 := Tryd.isAgg4
  z4 := Tryd.sizeOf4
  v4 := Tryd.zeroValue4
  t9 := Tryd.underlying9
  a9 := Tryd.isAgg9
  z9 := Tryd.sizeOf9
  v9 := Tryd.zeroValue9
  t24 := Tryd.underlying23
  a24 := Tryd.isAgg23
  z24 := Tryd.sizeOf23
  v24 := Tryd.zeroValue23 }
open Go.RowKit in
theorem Tryd.strings_CutPrefix (s p : ByteArray) (w : World) :
    Calls Tryd.prog 18 #[.string s, .string p] w fun e w' => e = .returned (.tuple #[.string ⟨(Lib.trimPrefix s.data.toList p.data.toList).toArray⟩, .bool (Lib.hasPrefix s.data.toList p.data.toList)]) ∧ w' = w := Any.strings_CutPrefix Tryd.lays103 s p w
def Tryd.lays172_ren : Go.Shelf.Ren := ⟨fun | 172 => 23 | 244 => 28 | 245 => 29 | 247 => 35 | 279 => 36 | 280 => 37 | 281 => 38 | 282 => 39 | 287 => 43 | 316 => 44 | 171 => 46 | 205 => 45 | 321 => 49 | 322 => 50 | 243 => 51 | 246 => 55 | 283 => 56 | 284 => 57 | 285 => 58 | 286 => 59 | 129 => 61 | 317 => 60 | 318 => 62 | 319 => 63 | 320 => 64 | 337 => 65 | 338 => 66 | n => n, fun | 9 => 9 | 3 => 3 | 75 => 36 | 76 => 37 | 4 => 4 | 5 => 5 | 167 => 48 | 37 => 49 | 0 => 0 | 85 => 50 | 2 => 2 | 168 => 52 | 53 => 58 | 175 => 59 | 46 => 61 | 210 => 64 | 127 => 69 | 145 => 72 | 143 => 70 | 21 => 21 | 171 => 81 | 173 => 84 | 212 => 87 | 51 => 88 | 20 => 20 | 213 => 89 | 232 => 93 | 233 => 94 | 80 => 97 | n => n, fun | 15 => 1 | 16 => 2 | 17 => 5 | 18 => 6 | 19 => 7 | n => n⟩
theorem Tryd.lays172 : Go.Proofs.Lays.n172 Tryd.prog Tryd.lays172_ren := {
  mixed := by kernel_rfl
  f129 := Tryd.func61.trans (congrArg some (by kernel_rfl))
  f171 := Tryd.func46.trans (congrArg some (by kernel_rfl))
  f172 := Tryd.func23.trans (congrArg some (by kernel_rfl))
  f205 := Tryd.func45.trans (congrArg some (by kernel_rfl))
  f243 := Tryd.func51.trans (congrArg some (by kernel_rfl))
  f244 := Tryd.func28.trans (congrArg some (by kernel_rfl))
  f245 := Tryd.func29.trans (congrArg some (by kernel_rfl))
  f246 := Tryd.func55.trans (congrArg some (by kernel_rfl))
  f247 := Tryd.func35.trans (congrArg some (by kernel_rfl))
  f279 := Tryd.func36.trans (congrArg some (by kernel_rfl))
  f280 := Tryd.func37.trans (congrArg some (by kernel_rfl))
  f281 := Tryd.func38.trans (congrArg some (by kernel_rfl))
  f282 := Tryd.func39.trans (congrArg some (by kernel_rfl))
  f283 := Tryd.func56.trans (congrArg some (by kernel_rfl))
  f284 := Tryd.func57.trans (congrArg some (by kernel_rfl))
  f285 := Tryd.func58.trans (congrArg some (by kernel_rfl))
  f286 := Tryd.func59.trans (congrArg some (by kernel_rfl))
  f287 := Tryd.func43.trans (congrArg some (by kernel_rfl))
  f316 := Tryd.func44.trans (congrArg some (by kernel_rfl))
  f317 := Tryd.func60.trans (congrArg some (by kernel_rfl))
  f318 := Tryd.func62.trans (congrArg some (by kernel_rfl))
  f319 := Tryd.func63.trans (congrArg some (by kernel_rfl))
  f320 := Tryd.func64.trans (congrArg some (by kernel_rfl))
  f321 := Tryd.func49.trans (congrArg some (by kernel_rfl))
  f322 := Tryd.func50.trans (congrArg some (by kernel_rfl))
  f337 := Tryd.func65.trans (congrArg some (by kernel_rfl))
  f338 := Tryd.func66.trans (congrArg some (by kernel_rfl))
  t0 := Tryd.underlying0
  a0 := Tryd.isAgg0
  z0 := Tryd.sizeOf0
  v0 := Tryd.zeroValue0
  t2 := Tryd.underlying2
  a2 := Tryd.isAgg2
  z2 := Tryd.sizeOf2
  v2 := Tryd.zeroValue2
  t3 := Tryd.underlying3
  a3 := Tryd.isAgg3
  z3 := Tryd.sizeOf3
  v3 := Tryd.zeroValue3
  t4 := Tryd.underlying4
  a4 := Tryd.isAgg4
  z4 := Tryd.sizeOf4
  v4 := Tryd.zeroValue4
  t5 := Tryd.underlying5
  a5 := Tryd.isAgg5
  z5 := Tryd.sizeOf5
  v5 := Tryd.zeroValue5
  t9 := Tryd.underlying9
  a9 := Tryd.isAgg9
  z9 := Tryd.sizeOf9
  v9 := Tryd.zeroValue9
  t20 := Tryd.underlying20
  a20 := Tryd.isAgg20
  z20 := Tryd.sizeOf20
  v20 := Tryd.zeroValue20
  t21 := Tryd.underlying21
  a21 := Tryd.isAgg21
  z21 := Tryd.sizeOf21
  v21 := Tryd.zeroValue21
  t37 := Tryd.underlying49
  a37 := Tryd.isAgg49
  z37 := Tryd.sizeOf49
  v37 := Tryd.zeroValue49
  t46 := Tryd.underlying61
  a46 := Tryd.isAgg61
  z46 := Tryd.sizeOf61
  v46 := Tryd.zeroValue61
  t51 := Tryd.underlying88
  a51 := Tryd.isAgg88
  z51 := Tryd.sizeOf88
  v51 := Tryd.zeroValue88
  t53 := Tryd.underlying58
  a53 := Tryd.isAgg58
  z53 := Tryd.sizeOf58
  v53 := Tryd.zeroValue58
  t75 := Tryd.underlying36
  a75 := Tryd.isAgg36
  z75 := Tryd.sizeOf36
  v75 := Tryd.zeroValue36
  t76 := Tryd.underlying37
  a76 := Tryd.isAgg37
  z76 := Tryd.sizeOf37
  v76 := Tryd.zeroValue37
  t85 := Tryd.underlying50
  a85 := Tryd.isAgg50
  z85 := Tryd.sizeOf50
  v85 := Tryd.zeroValue50
  t127 := Tryd.underlying69
  a127 := Tryd.isAgg69
  z127 := Tryd.sizeOf69
  v127 := Tryd.zeroValue69
  t143 := Tryd.underlying70
  a143 := Tryd.isAgg70
  z143 := Tryd.sizeOf70
  v143 := Tryd.zeroValue70
  t145 := Tryd.underlying72
  a145 := Tryd.isAgg72
  z145 := Tryd.sizeOf72
  v145 := Tryd.zeroValue72
  t167 := Tryd.underlying48
  a167 := Tryd.isAgg48
  z167 := Tryd.sizeOf48
  v167 := Tryd.zeroValue48
  t168 := Tryd.underlying52
  a168 := Tryd.isAgg52
  z168 := Tryd.sizeOf52
  v168 := Tryd.zeroValue52
  t171 := Tryd.underlying81
  a171 := Tryd.isAgg81
  z171 := Tryd.sizeOf81
  v171 := Tryd.zeroValue81
  t173 := Tryd.underlying84
  a173 := Tryd.isAgg84
  z173 := Tryd.sizeOf84
  v173 := Tryd.zeroValue84
  t175 := Tryd.underlying59
  a175 := Tryd.isAgg59
  z175 := Tryd.sizeOf59
  v175 := Tryd.zeroValue59
  t210 := Tryd.underlying64
  a210 := Tryd.isAgg64
  z210 := Tryd.sizeOf64
  v210 := Tryd.zeroValue64
  t212 := Tryd.underlying87
  a212 := Tryd.isAgg87
  z212 := Tryd.sizeOf87
  v212 := Tryd.zeroValue87
  t213 := Tryd.underlying89
  a213 := Tryd.isAgg89
  z213 := Tryd.sizeOf89
  t232 := Tryd.underlying93
  a232 := Tryd.isAgg93
  z232 := Tryd.sizeOf93
  v232 := Tryd.zeroValue93
  t233 := Tryd.underlying94
  a233 := Tryd.isAgg94
  z233 := Tryd.sizeOf94
  v233 := Tryd.zeroValue94
  g15 := by kernel_rfl
  g16 := by kernel_rfl
  g17 := by kernel_rfl
  g18 := by kernel_rfl
  g19 := by kernel_rfl }
open Go.RowKit in
theorem Tryd.strconv_Atoi (s : ByteArray) (n : Int) (hl : s.size ≤ 18) (h : Lib.atoi s.data.toList = some n) (w : World) :
    Calls Tryd.prog 23 #[.string s] w fun e w' => e = .returned (.tuple #[.int .i64 n, .nilIface]) ∧ ∃ t, w' = Lib.bytesWorld w 5 t := Any.strconv_Atoi Tryd.lays172 s n hl h w
def Tryd.lays99_ren : Go.Shelf.Ren := ⟨fun | 99 => 17 | 206 => 24 | n => n, fun | 9 => 9 | 4 => 4 | 3 => 3 | n => n, fun | n => n⟩
theorem Tryd.lays99 : Go.Proofs.Lays.n99 Tryd.prog Tryd.lays99_ren := {
  mixed := by kernel_rfl
  f99 := Tryd.func17.trans (congrArg some (by kernel_rfl))
  f206 := Tryd.func24.trans (congrArg some (by kernel_rfl))
  t3 := Tryd.underlying3
  a3 := Tryd.isAgg3
  z3 := Tryd.sizeOf3
  v3 := Tryd.zeroValue3
  t4 := Tryd.underlying4
  a4 := Tryd.isAgg4
  z4 := Tryd.sizeOf4
  v4 := Tryd.zeroValue4
  t9 := Tryd.underlying9
  a9 := Tryd.isAgg9
  z9 := Tryd.sizeOf9
  v9 := Tryd.zeroValue9 }
open Go.RowKit Go.Lib in
theorem Tryd.strings_HasPrefix (s p : ByteArray) (w : World) :
    Calls Tryd.prog 17 #[.string s, .string p] w fun e w' => e = .returned (.bool (Lib.hasPrefix s.data.toList p.data.toList)) ∧ w' = w := Any.strings_HasPrefix Tryd.lays99 s p w
end Go.Proofs
