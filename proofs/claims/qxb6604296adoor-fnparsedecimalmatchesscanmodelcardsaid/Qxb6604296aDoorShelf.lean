/-
  The library's contracts that this proof uses, laid at this seat's translation by the kit's lay-shelf and lay-plain (their remarks struck).
-/
import Derived.Shelf.Strings.Trim
import Derived.Shelf.Small.Utf8
import Derived.Shelf.Small.Strs
import Derived.Shelf.Strconv.ParseIntEmpty
import Derived.Shelf.LaysM
import Derived.Shelf.Strconv.Clone
import Derived.Shelf.Strconv.SyntaxError
import Derived.Shelf.LaysC
import Derived.Shelf.Strconv.ToError
import Derived.Shelf.Strconv.Lower
import Derived.Shelf.Strconv.ParseUint10
import Derived.Shelf.Strconv.ParseUint10Empty
import Derived.Shelf.Strconv.ParseUint10Any
import Derived.Shelf.Strconv.ParseInt10
import Derived.Shelf.Strconv.RangeError
import Derived.Shelf.Strconv.ToErrorRange
import Derived.Shelf.Strconv.ParseUintEmpty
import Derived.Shelf.Strconv.ParseUint10b64
import Derived.Shelf.Strconv.ParseUint10b32
import Derived.Shelf.Strconv.ParseUint10b16
import Derived.Shelf.Strconv.ParseUint10b8
import Derived.Shelf.Strconv.ParseUint10At
import Derived.Shelf.Strconv.ParseInt10At64
import Derived.Shelf.Strconv.ParseInt10At32
import Derived.Shelf.Strconv.ParseInt10At16
import Derived.Shelf.Strconv.ParseInt10At8
import Derived.Shelf.Strconv.ParseInt10All
import Derived.Shelf.Strconv.ParseIntPublic10
import Derived.Shelf.Strconv.ErrVarParseInt
import Derived.Shelf.Strings.Search1
import Derived.Shelf.Strings.Prefix
import Derived.Shelf.Strings.Runes
import Derived.Shelf.Strings.IndexAny
import Derived.Shelf.Strings.AsciiSet
import Derived.Shelf.Strings.IndexAnyAll
import Derived.Shelf.Unicode.DecodeSlow
import Derived.Test.Qxb6604296aDoorProg
namespace Go.Proofs
open Go.Shelf
def Tryd.lays161_ren : Go.Shelf.Ren := ⟨fun | 161 => 12 | 231 => 22 | 227 => 19 | 233 => 23 | 235 => 24 | 228 => 20 | 197 => 36 | 151 => 37 | 260 => 44 | 152 => 17 | 137 => 11 | 119 => 32 | 224 => 33 | 225 => 34 | 217 => 21 | 266 => 35 | n => n, fun | 9 => 9 | 4 => 4 | 3 => 3 | 5 => 5 | 117 => 42 | 116 => 41 | 0 => 0 | 124 => 46 | 105 => 51 | 21 => 21 | 119 => 67 | 46 => 50 | 139 => 70 | 138 => 69 | n => n, fun | 3 => 3 | 4 => 4 | n => n⟩
theorem Tryd.lays161 : Go.Proofs.Lays.n161 Tryd.prog Tryd.lays161_ren := {
  mixed := by kernel_rfl
  f119 := Tryd.func32.trans (congrArg some (by kernel_rfl))
  f137 := Tryd.func11.trans (congrArg some (by kernel_rfl))
  f151 := Tryd.func37.trans (congrArg some (by kernel_rfl))
  f152 := Tryd.func17.trans (congrArg some (by kernel_rfl))
  f161 := Tryd.func12.trans (congrArg some (by kernel_rfl))
  f197 := Tryd.func36.trans (congrArg some (by kernel_rfl))
  f217 := Tryd.func21.trans (congrArg some (by kernel_rfl))
  f224 := Tryd.func33.trans (congrArg some (by kernel_rfl))
  f225 := Tryd.func34.trans (congrArg some (by kernel_rfl))
  f227 := Tryd.func19.trans (congrArg some (by kernel_rfl))
  f228 := Tryd.func20.trans (congrArg some (by kernel_rfl))
  f231 := Tryd.func22.trans (congrArg some (by kernel_rfl))
  f233 := Tryd.func23.trans (congrArg some (by kernel_rfl))
  f235 := Tryd.func24.trans (congrArg some (by kernel_rfl))
  f260 := Tryd.func44.trans (congrArg some (by kernel_rfl))
  f266 := Tryd.func35.trans (congrArg some (by kernel_rfl))
  t0 := Tryd.underlying0
  a0 := Tryd.isAgg0
  z0 := Tryd.sizeOf0
  v0 := Tryd.zeroValue0
  t3 := Tryd.underlying3
  a3 := Tryd.isAgg3
  z3 := Tryd.sizeOf3
  v3 := Tryd.zeroValue3
  t4 := Tryd.underlying4
  a4 := Tryd.isAgg4
  z4 := Tryd.sizeOf4
  v4 := Tryd.zeroValue4
  t5 := Tryd.underlying5
  a5 := Tryd.isAgg5
  z5 := Tryd.sizeOf5
  v5 := Tryd.zeroValue5
  t9 := Tryd.underlying9
  a9 := Tryd.isAgg9
  z9 := Tryd.sizeOf9
  v9 := Tryd.zeroValue9
  t21 := Tryd.underlying21
  a21 := Tryd.isAgg21
  z21 := Tryd.sizeOf21
  v21 := Tryd.zeroValue21
  t46 := Tryd.underlying50
  a46 := Tryd.isAgg50
  z46 := Tryd.sizeOf50
  v46 := Tryd.zeroValue50
  t105 := Tryd.underlying51
  a105 := Tryd.isAgg51
  z105 := Tryd.sizeOf51
  v105 := Tryd.zeroValue51
  t116 := Tryd.underlying41
  a116 := Tryd.isAgg41
  z116 := Tryd.sizeOf41
  t117 := Tryd.underlying42
  a117 := Tryd.isAgg42
  z117 := Tryd.sizeOf42
  v117 := Tryd.zeroValue42
  t119 := Tryd.underlying67
  a119 := Tryd.isAgg67
  z119 := Tryd.sizeOf67
  t124 := Tryd.underlying46
  a124 := Tryd.isAgg46
  z124 := Tryd.sizeOf46
  v124 := Tryd.zeroValue46
  t138 := Tryd.underlying69
  a138 := Tryd.isAgg69
  z138 := Tryd.sizeOf69
  v138 := Tryd.zeroValue69
  t139 := Tryd.underlying70
  a139 := Tryd.isAgg70
  z139 := Tryd.sizeOf70
  v139 := Tryd.zeroValue70
  g3 := by kernel_rfl
  g4 := by kernel_rfl }
open Go.RowKit in
theorem Tryd.strings_TrimLeft_one (s : ByteArray) (c : UInt8) (hc : c.toNat < 128) (w : World) :
    Calls Tryd.prog 12 #[.string s, .string ⟨#[c]⟩] w fun e w' => e = .returned (.string ⟨(Lib.trimLeftB s.data.toList c).toArray⟩) ∧ w' = w := Any.strings_TrimLeft_one Tryd.lays161 s c hc w
def Tryd.lays162_ren : Go.Shelf.Ren := ⟨fun | 162 => 13 | 232 => 25 | 227 => 19 | 234 => 26 | 236 => 27 | 228 => 20 | 271 => 38 | 151 => 37 | 120 => 45 | 197 => 36 | 152 => 17 | 260 => 44 | 137 => 11 | 119 => 32 | 224 => 33 | 225 => 34 | 217 => 21 | 266 => 35 | n => n, fun | 9 => 9 | 4 => 4 | 3 => 3 | 5 => 5 | 117 => 42 | 116 => 41 | 0 => 0 | 124 => 46 | 21 => 21 | 105 => 51 | 46 => 50 | 119 => 67 | 139 => 70 | 138 => 69 | n => n, fun | 3 => 3 | 4 => 4 | n => n⟩
theorem Tryd.lays162 : Go.Proofs.Lays.n162 Tryd.prog Tryd.lays162_ren := {
  mixed := by kernel_rfl
  f119 := Tryd.func32.trans (congrArg some (by kernel_rfl))
  f120 := Tryd.func45.trans (congrArg some (by kernel_rfl))
  f137 := Tryd.func11.trans (congrArg some (by kernel_rfl))
  f151 := Tryd.func37.trans (congrArg some (by kernel_rfl))
  f152 := Tryd.func17.trans (congrArg some (by kernel_rfl))
  f162 := Tryd.func13.trans (congrArg some (by kernel_rfl))
  f197 := Tryd.func36.trans (congrArg some (by kernel_rfl))
  f217 := Tryd.func21.trans (congrArg some (by kernel_rfl))
  f224 := Tryd.func33.trans (congrArg some (by kernel_rfl))
  f225 := Tryd.func34.trans (congrArg some (by kernel_rfl))
  f227 := Tryd.func19.trans (congrArg some (by kernel_rfl))
  f228 := Tryd.func20.trans (congrArg some (by kernel_rfl))
  f232 := Tryd.func25.trans (congrArg some (by kernel_rfl))
  f234 := Tryd.func26.trans (congrArg some (by kernel_rfl))
  f236 := Tryd.func27.trans (congrArg some (by kernel_rfl))
  f260 := Tryd.func44.trans (congrArg some (by kernel_rfl))
  f266 := Tryd.func35.trans (congrArg some (by kernel_rfl))
  f271 := Tryd.func38.trans (congrArg some (by kernel_rfl))
  t0 := Tryd.underlying0
  a0 := Tryd.isAgg0
  z0 := Tryd.sizeOf0
  v0 := Tryd.zeroValue0
  t3 := Tryd.underlying3
  a3 := Tryd.isAgg3
  z3 := Tryd.sizeOf3
  v3 := Tryd.zeroValue3
  t4 := Tryd.underlying4
  a4 := Tryd.isAgg4
  z4 := Tryd.sizeOf4
  v4 := Tryd.zeroValue4
  t5 := Tryd.underlying5
  a5 := Tryd.isAgg5
  z5 := Tryd.sizeOf5
  v5 := Tryd.zeroValue5
  t9 := Tryd.underlying9
  a9 := Tryd.isAgg9
  z9 := Tryd.sizeOf9
  v9 := Tryd.zeroValue9
  t21 := Tryd.underlying21
  a21 := Tryd.isAgg21
  z21 := Tryd.sizeOf21
  v21 := Tryd.zeroValue21
  t46 := Tryd.underlying50
  a46 := Tryd.isAgg50
  z46 := Tryd.sizeOf50
  v46 := Tryd.zeroValue50
  t105 := Tryd.underlying51
  a105 := Tryd.isAgg51
  z105 := Tryd.sizeOf51
  v105 := Tryd.zeroValue51
  t116 := Tryd.underlying41
  a116 := Tryd.isAgg41
  z116 := Tryd.sizeOf41
  t117 := Tryd.underlying42
  a117 := Tryd.isAgg42
  z117 := Tryd.sizeOf42
  v117 := Tryd.zeroValue42
  t119 := Tryd.underlying67
  a119 := Tryd.isAgg67
  z119 := Tryd.sizeOf67
  t124 := Tryd.underlying46
  a124 := Tryd.isAgg46
  z124 := Tryd.sizeOf46
  v124 := Tryd.zeroValue46
  t138 := Tryd.underlying69
  a138 := Tryd.isAgg69
  z138 := Tryd.sizeOf69
  v138 := Tryd.zeroValue69
  t139 := Tryd.underlying70
  a139 := Tryd.isAgg70
  z139 := Tryd.sizeOf70
  v139 := Tryd.zeroValue70
  g3 := by kernel_rfl
  g4 := by kernel_rfl }
open Go.RowKit in
theorem Tryd.strings_TrimRight_one (s : ByteArray) (c : UInt8) (hc : c.toNat < 128) (w : World) (hs : s.size ≤ 9223372036854775807) :
    Calls Tryd.prog 13 #[.string s, .string ⟨#[c]⟩] w fun e w' => e = .returned (.string ⟨(Lib.trimRightB s.data.toList c).toArray⟩) ∧ w' = w := Any.strings_TrimRight_one Tryd.lays162 s c hc w hs
def Tryd.lays137_ren : Go.Shelf.Ren := ⟨fun | 137 => 11 | 217 => 21 | 266 => 35 | n => n, fun | 9 => 9 | 5 => 5 | 3 => 3 | n => n, fun | n => n⟩
theorem Tryd.lays137 : Go.Proofs.Lays.n137 Tryd.prog Tryd.lays137_ren := {
  mixed := by kernel_rfl
  f137 := Tryd.func11.trans (congrArg some (by kernel_rfl))
  f217 := Tryd.func21.trans (congrArg some (by kernel_rfl))
  f266 := Tryd.func35.trans (congrArg some (by kernel_rfl))
  t3 := Tryd.underlying3
  a3 := Tryd.isAgg3
  z3 := Tryd.sizeOf3
  v3 := Tryd.zeroValue3
  t5 := Tryd.underlying5
  a5 := Tryd.isAgg5
  z5 := Tryd.sizeOf5
  v5 := Tryd.zeroValue5
  t9 := Tryd.underlying9
  a9 := Tryd.isAgg9
  z9 := Tryd.sizeOf9
  v9 := Tryd.zeroValue9 }
open Go.RowKit in
theorem Tryd.strings_IndexByte (s : ByteArray) (c : Int) (w : World) :
    Calls Tryd.prog 11 #[.string s, .int .u8 c] w fun e w' => e = .returned (.int .i64 (Lib.indexByte s.data.toList c.toNat.toUInt8)) ∧ w' = w := Any.strings_IndexByte Tryd.lays137 s c w
def Tryd.laysC174_ren : Go.Shelf.Ren := ⟨fun | 174 => 14 | 247 => 28 | 245 => 29 | 287 => 39 | 279 => 40 | 280 => 41 | 281 => 42 | 282 => 43 | 321 => 46 | 322 => 47 | 316 => 48 | 171 => 50 | 205 => 49 | 243 => 51 | 246 => 52 | 283 => 53 | 284 => 54 | 285 => 55 | 286 => 56 | 129 => 58 | 317 => 57 | 318 => 59 | 319 => 60 | 320 => 61 | 337 => 62 | 338 => 63 | n => n, fun | 9 => 9 | 3 => 3 | 2 => 2 | 75 => 34 | 85 => 35 | 4 => 4 | 167 => 54 | 5 => 5 | 53 => 55 | 175 => 56 | 46 => 50 | 168 => 58 | 37 => 29 | 0 => 0 | 210 => 64 | 21 => 21 | 127 => 71 | 145 => 74 | 143 => 72 | 171 => 76 | 173 => 79 | 212 => 82 | 51 => 83 | 20 => 20 | 213 => 84 | 232 => 87 | 233 => 88 | 80 => 91 | n => n, fun | 15 => 1 | 16 => 2 | 17 => 5 | 18 => 6 | 19 => 7 | n => n⟩
theorem Tryd.laysC174 : Go.Proofs.LaysC.n174 Tryd.prog Tryd.laysC174_ren := {
  mixed := by kernel_rfl
  f129 := Tryd.func58.trans (congrArg some (by kernel_rfl))
  f171 := Tryd.func50.trans (congrArg some (by kernel_rfl))
  f174 := Tryd.func14.trans (congrArg some (by kernel_rfl))
  f205 := Tryd.func49.trans (congrArg some (by kernel_rfl))
  f243 := Tryd.func51.trans (congrArg some (by kernel_rfl))
  f245 := Tryd.func29.trans (congrArg some (by kernel_rfl))
  f246 := Tryd.func52.trans (congrArg some (by kernel_rfl))
  f247 := Tryd.func28.trans (congrArg some (by kernel_rfl))
  f279 := Tryd.func40.trans (congrArg some (by kernel_rfl))
  f280 := Tryd.func41.trans (congrArg some (by kernel_rfl))
  f281 := Tryd.func42.trans (congrArg some (by kernel_rfl))
  f282 := Tryd.func43.trans (congrArg some (by kernel_rfl))
  f283 := Tryd.func53.trans (congrArg some (by kernel_rfl))
  f284 := Tryd.func54.trans (congrArg some (by kernel_rfl))
  f285 := Tryd.func55.trans (congrArg some (by kernel_rfl))
  f286 := Tryd.func56.trans (congrArg some (by kernel_rfl))
  f287 := Tryd.func39.trans (congrArg some (by kernel_rfl))
  f316 := Tryd.func48.trans (congrArg some (by kernel_rfl))
  f317 := Tryd.func57.trans (congrArg some (by kernel_rfl))
  f318 := Tryd.func59.trans (congrArg some (by kernel_rfl))
  f319 := Tryd.func60.trans (congrArg some (by kernel_rfl))
  f320 := Tryd.func61.trans (congrArg some (by kernel_rfl))
  f321 := Tryd.func46.trans (congrArg some (by kernel_rfl))
  f322 := Tryd.func47.trans (congrArg some (by kernel_rfl))
  f337 := Tryd.func62.trans (congrArg some (by kernel_rfl))
  f338 := Tryd.func63.trans (congrArg some (by kernel_rfl))
  t0 := Tryd.underlying0
  a0 := Tryd.isAgg0
  z0 := Tryd.sizeOf0
  v0 := Tryd.zeroValue0
  t2 := Tryd.underlying2
  a2 := Tryd.isAgg2
  z2 := Tryd.sizeOf2
  v2 := Tryd.zeroValue2
  t3 := Tryd.underlying3
  a3 := Tryd.isAgg3
  z3 := Tryd.sizeOf3
  v3 := Tryd.zeroValue3
  t4 := Tryd.underlying4
  a4 := Tryd.isAgg4
  z4 := Tryd.sizeOf4
  v4 := Tryd.zeroValue4
  t5 := Tryd.underlying5
  a5 := Tryd.isAgg5
  z5 := Tryd.sizeOf5
  v5 := Tryd.zeroValue5
  t9 := Tryd.underlying9
  a9 := Tryd.isAgg9
  z9 := Tryd.sizeOf9
  v9 := Tryd.zeroValue9
  t20 := Tryd.underlying20
  a20 := Tryd.isAgg20
  z20 := Tryd.sizeOf20
  v20 := Tryd.zeroValue20
  t21 := Tryd.underlying21
  a21 := Tryd.isAgg21
  z21 := Tryd.sizeOf21
  v21 := Tryd.zeroValue21
  t37 := Tryd.underlying29
  a37 := Tryd.isAgg29
  z37 := Tryd.sizeOf29
  v37 := Tryd.zeroValue29
  t46 := Tryd.underlying50
  a46 := Tryd.isAgg50
  z46 := Tryd.sizeOf50
  v46 := Tryd.zeroValue50
  t51 := Tryd.underlying83
  a51 := Tryd.isAgg83
  z51 := Tryd.sizeOf83
  v51 := Tryd.zeroValue83
  t53 := Tryd.underlying55
  a53 := Tryd.isAgg55
  z53 := Tryd.sizeOf55
  v53 := Tryd.zeroValue55
  t75 := Tryd.underlying34
  a75 := Tryd.isAgg34
  z75 := Tryd.sizeOf34
  v75 := Tryd.zeroValue34
  t85 := Tryd.underlying35
  a85 := Tryd.isAgg35
  z85 := Tryd.sizeOf35
  v85 := Tryd.zeroValue35
  t127 := Tryd.underlying71
  a127 := Tryd.isAgg71
  z127 := Tryd.sizeOf71
  v127 := Tryd.zeroValue71
  t143 := Tryd.underlying72
  a143 := Tryd.isAgg72
  z143 := Tryd.sizeOf72
  v143 := Tryd.zeroValue72
  t145 := Tryd.underlying74
  a145 := Tryd.isAgg74
  z145 := Tryd.sizeOf74
  v145 := Tryd.zeroValue74
  t167 := Tryd.underlying54
  a167 := Tryd.isAgg54
  z167 := Tryd.sizeOf54
  v167 := Tryd.zeroValue54
  t168 := Tryd.underlying58
  a168 := Tryd.isAgg58
  z168 := Tryd.sizeOf58
  v168 := Tryd.zeroValue58
  t171 := Tryd.underlying76
  a171 := Tryd.isAgg76
  z171 := Tryd.sizeOf76
  v171 := Tryd.zeroValue76
  t173 := Tryd.underlying79
  a173 := Tryd.isAgg79
  z173 := Tryd.sizeOf79
  v173 := Tryd.zeroValue79
  t175 := Tryd.underlying56
  a175 := Tryd.isAgg56
  z175 := Tryd.sizeOf56
  v175 := Tryd.zeroValue56
  t210 := Tryd.underlying64
  a210 := Tryd.isAgg64
  z210 := Tryd.sizeOf64
  v210 := Tryd.zeroValue64
  t212 := Tryd.underlying82
  a212 := Tryd.isAgg82
  z212 := Tryd.sizeOf82
  v212 := Tryd.zeroValue82
  t213 := Tryd.underlying84
  a213 := Tryd.isAgg84
  z213 := Tryd.sizeOf84
  t232 := Tryd.underlying87
  a232 := Tryd.isAgg87
  z232 := Tryd.sizeOf87
  v232 := Tryd.zeroValue87
  t233 := Tryd.underlying88
  a233 := Tryd.isAgg88
  z233 := Tryd.sizeOf88
  v233 := Tryd.zeroValue88
  g15 := by kernel_rfl
  g16 := by kernel_rfl
  g17 := by kernel_rfl
  g18 := by kernel_rfl
  g19 := by kernel_rfl
  t80 := Tryd.underlying91
  a80 := Tryd.isAgg91
  z80 := Tryd.sizeOf91
  v80 := Tryd.zeroValue91
  i0 := by kernel_rfl
  i2 := by kernel_rfl
  i3 := by kernel_rfl
  i4 := by kernel_rfl
  i5 := by kernel_rfl
  i9 := by kernel_rfl
  i20 := by kernel_rfl
  i21 := by kernel_rfl
  i37 := by kernel_rfl
  i46 := by kernel_rfl
  i51 := by kernel_rfl
  i53 := by kernel_rfl
  i75 := by kernel_rfl
  i80 := by kernel_rfl
  i85 := by kernel_rfl
  i127 := by kernel_rfl
  i143 := by kernel_rfl
  i145 := by kernel_rfl
  i167 := by kernel_rfl
  i168 := by kernel_rfl
  i171 := by kernel_rfl
  i173 := by kernel_rfl
  i175 := by kernel_rfl
  i210 := by kernel_rfl
  i212 := by kernel_rfl
  i232 := by kernel_rfl
  i233 := by kernel_rfl
  m15 := by kernel_rfl
  m16 := by kernel_rfl
  m17 := by kernel_rfl
  m18 := by kernel_rfl
  m19 := by kernel_rfl
  c0 := by kernel_rfl
  c2 := by kernel_rfl
  c3 := by kernel_rfl
  c4 := by kernel_rfl
  c5 := by kernel_rfl
  c9 := by kernel_rfl
  c20 := by kernel_rfl
  c21 := by kernel_rfl
  c37 := by kernel_rfl
  c46 := by kernel_rfl
  c51 := by kernel_rfl
  c53 := by kernel_rfl
  c75 := by kernel_rfl
  c80 := by kernel_rfl
  c85 := by kernel_rfl
  c127 := by kernel_rfl
  c143 := by kernel_rfl
  c145 := by kernel_rfl
  c167 := by kernel_rfl
  c168 := by kernel_rfl
  c171 := by kernel_rfl
  c173 := by kernel_rfl
  c175 := by kernel_rfl
  c210 := by kernel_rfl
  c212 := by kernel_rfl
  c213 := by kernel_rfl
  c232 := by kernel_rfl
  c233 := by kernel_rfl }
open Go.RowKit in
theorem Tryd.strconv_ParseInt_10_at64_ok (s : ByteArray) (hmax : s.size ≤ 9223372036854775806) (v : Int) (h : Lib.parseIntB 64 s.data.toList = .ok v) (w : World) :
    Calls Tryd.prog 14 #[.string s, .int .i64 10, .int .i64 64] w fun e w' => e = .returned (.tuple #[.int .i64 v, .nilIface]) ∧ (w' = w ∨ ∃ t, w' = Lib.bytesWorld w 5 t) := Any.strconv_ParseInt_10_at64_ok Tryd.laysC174 s hmax v h w
open Go.RowKit in
theorem Tryd.strconv_ParseInt_10_at64_range_var (s : ByteArray) (hlim : s.size ≤ 281474976710656) (h : Lib.parseIntB 64 s.data.toList = .range) (tp : TypeId) (p : Value) (w : World) (hvar : w.var? Tryd.prog "strconv.ErrRange" = some #[.iface tp p]) :
    Calls Tryd.prog 14 #[.string s, .int .i64 10, .int .i64 64] w fun e w' => ∃ N, e = .returned (.tuple #[.int .i64 (Lib.intSat 64 s.data.toList), .iface 58 (.pointer (some ⟨N, 0, none⟩))]) ∧ w.heap.size ≤ N ∧ w'.heap[N]? = some (.cells #[.string ⟨#[80, 97, 114, 115, 101, 73, 110, 116]⟩, .string s, .iface tp p] 64 (0, 0)) ∧ Below w.heap.size w w' := Any.strconv_ParseInt_10_at64_range_var Tryd.laysC174 s hlim h tp p w hvar
def Tryd.lays99_ren : Go.Shelf.Ren := ⟨fun | 99 => 16 | 206 => 31 | n => n, fun | 9 => 9 | 4 => 4 | 3 => 3 | n => n, fun | n => n⟩
theorem Tryd.lays99 : Go.Proofs.Lays.n99 Tryd.prog Tryd.lays99_ren := {
  mixed := by kernel_rfl
  f99 := Tryd.func16.trans (congrArg some (by kernel_rfl))
  f206 := Tryd.func31.trans (congrArg some (by kernel_rfl))
  t3 := Tryd.underlying3
  a3 := Tryd.isAgg3
  z3 := Tryd.sizeOf3
  v3 := Tryd.zeroValue3
  t4 := Tryd.underlying4
  a4 := Tryd.isAgg4
  z4 := Tryd.sizeOf4
  v4 := Tryd.zeroValue4
  t9 := Tryd.underlying9
  a9 := Tryd.isAgg9
  z9 := Tryd.sizeOf9
  v9 := Tryd.zeroValue9 }
open Go.RowKit Go.Lib in
theorem Tryd.strings_HasPrefix (s p : ByteArray) (w : World) :
    Calls Tryd.prog 16 #[.string s, .string p] w fun e w' => e = .returned (.bool (Lib.hasPrefix s.data.toList p.data.toList)) ∧ w' = w := Any.strings_HasPrefix Tryd.lays99 s p w
def Tryd.lays101_ren : Go.Shelf.Ren := ⟨fun | 101 => 15 | 208 => 30 | 206 => 31 | n => n, fun | 9 => 9 | 4 => 4 | 3 => 3 | n => n, fun | n => n⟩
theorem Tryd.lays101 : Go.Proofs.Lays.n101 Tryd.prog Tryd.lays101_ren := {
  mixed := by kernel_rfl
  f101 := Tryd.func15.trans (congrArg some (by kernel_rfl))
  f206 := Tryd.func31.trans (congrArg some (by kernel_rfl))
  f208 := Tryd.func30.trans (congrArg some (by kernel_rfl))
  t3 := Tryd.underlying3
  a3 := Tryd.isAgg3
  z3 := Tryd.sizeOf3
  v3 := Tryd.zeroValue3
  t4 := Tryd.underlying4
  a4 := Tryd.isAgg4
  z4 := Tryd.sizeOf4
  v4 := Tryd.zeroValue4
  t9 := Tryd.underlying9
  a9 := Tryd.isAgg9
  z9 := Tryd.sizeOf9
  v9 := Tryd.zeroValue9 }
open Go.RowKit Go.Lib in
theorem Tryd.strings_TrimPrefix (s p : ByteArray) (w : World) :
    Calls Tryd.prog 15 #[.string s, .string p] w fun e w' => e = .returned (.string ⟨(Lib.trimPrefix s.data.toList p.data.toList).toArray⟩) ∧ w' = w := Any.strings_TrimPrefix Tryd.lays101 s p w
def Tryd.lays153_ren : Go.Shelf.Ren := ⟨fun | 153 => 10 | 152 => 17 | 226 => 18 | 227 => 19 | 228 => 20 | 137 => 11 | 119 => 32 | 224 => 33 | 225 => 34 | 217 => 21 | 266 => 35 | n => n, fun | 9 => 9 | 3 => 3 | 4 => 4 | 5 => 5 | 21 => 21 | 117 => 42 | 116 => 41 | 0 => 0 | 46 => 50 | 124 => 46 | n => n, fun | n => n⟩
theorem Tryd.lays153 : Go.Proofs.Lays.n153 Tryd.prog Tryd.lays153_ren := {
  mixed := by kernel_rfl
  f119 := Tryd.func32.trans (congrArg some (by kernel_rfl))
  f137 := Tryd.func11.trans (congrArg some (by kernel_rfl))
  f152 := Tryd.func17.trans (congrArg some (by kernel_rfl))
  f153 := Tryd.func10.trans (congrArg some (by kernel_rfl))
  f217 := Tryd.func21.trans (congrArg some (by kernel_rfl))
  f224 := Tryd.func33.trans (congrArg some (by kernel_rfl))
  f225 := Tryd.func34.trans (congrArg some (by kernel_rfl))
  f226 := Tryd.func18.trans (congrArg some (by kernel_rfl))
  f227 := Tryd.func19.trans (congrArg some (by kernel_rfl))
  f228 := Tryd.func20.trans (congrArg some (by kernel_rfl))
  f266 := Tryd.func35.trans (congrArg some (by kernel_rfl))
  t0 := Tryd.underlying0
  a0 := Tryd.isAgg0
  z0 := Tryd.sizeOf0
  v0 := Tryd.zeroValue0
  t3 := Tryd.underlying3
  a3 := Tryd.isAgg3
  z3 := Tryd.sizeOf3
  v3 := Tryd.zeroValue3
  t4 := Tryd.underlying4
  a4 := Tryd.isAgg4
  z4 := Tryd.sizeOf4
  v4 := Tryd.zeroValue4
  t5 := Tryd.underlying5
  a5 := Tryd.isAgg5
  z5 := Tryd.sizeOf5
  v5 := Tryd.zeroValue5
  t9 := Tryd.underlying9
  a9 := Tryd.isAgg9
  z9 := Tryd.sizeOf9
  v9 := Tryd.zeroValue9
  t21 := Tryd.underlying21
  a21 := Tryd.isAgg21
  z21 := Tryd.sizeOf21
  v21 := Tryd.zeroValue21
  t46 := Tryd.underlying50
  a46 := Tryd.isAgg50
  z46 := Tryd.sizeOf50
  v46 := Tryd.zeroValue50
  t116 := Tryd.underlying41
  a116 := Tryd.isAgg41
  z116 := Tryd.sizeOf41
  t117 := Tryd.underlying42
  a117 := Tryd.isAgg42
  z117 := Tryd.sizeOf42
  v117 := Tryd.zeroValue42
  t124 := Tryd.underlying46
  a124 := Tryd.isAgg46
  z124 := Tryd.sizeOf46
  v124 := Tryd.zeroValue46 }
open Go.RowKit Go.Lib in
theorem Tryd.strings_IndexAny_laid (s chars : ByteArray) (w : World) (hs : s.size < 4294967281) (hcs : chars.size < 4294967281) (has : ∀ (j : Nat) b, s.data.toList[j]? = some b → b.toNat < 128) (hac : ∀ (j : Nat) b, chars.data.toList[j]? = some b → b.toNat < 128) :
    Calls Tryd.prog 10 #[.string s, .string chars] w fun e w' => e = .returned (.int .i64 (Lib.indexAny s.data.toList chars.data.toList)) ∧ Below w.heap.size w w' := Any.strings_IndexAny_laid Tryd.lays153 (by kernel_rfl) s chars w hs hcs has hac
end Go.Proofs
