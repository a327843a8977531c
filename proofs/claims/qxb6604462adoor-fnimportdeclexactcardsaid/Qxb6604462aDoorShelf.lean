/-
  The library's contracts that this proof uses, laid at this seat's translation by the kit's lay-shelf and lay-plain (their remarks struck).
-/
import Derived.Shelf.SlSortCmp.WholeK
import Derived.Shelf.Strings.OnBuilder
import Derived.Shelf.Small.Strs
import Derived.Shelf.Strconv.Quote
import Derived.Shelf.LaysM
import Derived.Shelf.Strconv.Itoa3
import Derived.Shelf.Strings.Search1
import Derived.Shelf.Strings.Search2
import Derived.Shelf.Strings.Search3
import Derived.Shelf.Slices.Turned
import Derived.Test.Qxb6604462aDoorProg
namespace Go.Proofs
open Go.Shelf
set_option maxRecDepth 100000
def Tryd.lays156_ren : Go.Shelf.Ren := ⟨fun | 156 => 25 | 165 => 37 | 166 => 38 | 169 => 39 | 240 => 55 | 241 => 56 | 276 => 66 | 277 => 67 | n => n, fun | 31 => 23 | 9 => 9 | 3 => 3 | 4 => 4 | 0 => 0 | 20 => 20 | 72 => 67 | 76 => 71 | 70 => 65 | 37 => 51 | 75 => 70 | 127 => 86 | 164 => 97 | 5 => 5 | 80 => 35 | n => n, fun | n => n⟩
theorem Tryd.lays156 : Go.Proofs.Lays.n156 Tryd.prog Tryd.lays156_ren := {
  mixed := by kernel_rfl
  f156 := Tryd.func25.trans (congrArg some (by kernel_rfl))
  f165 := Tryd.func37.trans (congrArg some (by kernel_rfl))
  f166 := Tryd.func38.trans (congrArg some (by kernel_rfl))
  f169 := Tryd.func39.trans (congrArg some (by kernel_rfl))
  f240 := Tryd.func55.trans (congrArg some (by kernel_rfl))
  f241 := Tryd.func56.trans (congrArg some (by kernel_rfl))
  f276 := Tryd.func66.trans (congrArg some (by kernel_rfl))
  f277 := Tryd.func67.trans (congrArg some (by kernel_rfl))
  t0 := Tryd.underlying0
  a0 := Tryd.isAgg0
  z0 := Tryd.sizeOf0
  v0 := Tryd.zeroValue0
  t3 := Tryd.underlying3
  a3 := Tryd.isAgg3
  z3 := Tryd.sizeOf3
  v3 := Tryd.zeroValue3
  t4 := Tryd.underlying4
  a4 := Tryd.isAgg4
  z4 := Tryd.sizeOf4
  v4 := Tryd.zeroValue4
  t9 := Tryd.underlying9
  a9 := Tryd.isAgg9
  z9 := Tryd.sizeOf9
  v9 := Tryd.zeroValue9
  t20 := Tryd.underlying20
  a20 := Tryd.isAgg20
  z20 := Tryd.sizeOf20
  v20 := Tryd.zeroValue20
  t31 := Tryd.underlying23
  a31 := Tryd.isAgg23
  z31 := Tryd.sizeOf23
  v31 := Tryd.zeroValue23
  t37 := Tryd.underlying51
  a37 := Tryd.isAgg51
  z37 := Tryd.sizeOf51
  v37 := Tryd.zeroValue51
  t70 := Tryd.underlying65
  a70 := Tryd.isAgg65
  z70 := Tryd.sizeOf65
  v70 := Tryd.zeroValue65
  t72 := Tryd.underlying67
  a72 := Tryd.isAgg67
  z72 := Tryd.sizeOf67
  v72 := Tryd.zeroValue67
  t75 := Tryd.underlying70
  a75 := Tryd.isAgg70
  z75 := Tryd.sizeOf70
  v75 := Tryd.zeroValue70
  t76 := Tryd.underlying71
  a76 := Tryd.isAgg71
  z76 := Tryd.sizeOf71
  v76 := Tryd.zeroValue71
  t127 := Tryd.underlying86
  a127 := Tryd.isAgg86
  z127 := Tryd.sizeOf86
  v127 := Tryd.zeroValue86
  t164 := Tryd.underlying97
  a164 := Tryd.isAgg97
  z164 := Tryd.sizeOf97
  v164 := Tryd.zeroValue97 }
theorem Tryd.Builder_Extra_156 : Builder.Extra Tryd.prog Tryd.lays156_ren := {
  sizeBuilder := by kernel_rfl
  liesBuilder := by kernel_rfl
  t5 := Tryd.underlying5
  a5 := Tryd.isAgg5
  z5 := Tryd.sizeOf5
  v5 := Tryd.zeroValue5
  infoByte := by kernel_rfl
  cellsByte := by kernel_rfl
  sizeByte := by kernel_rfl
  neB5 := by decide }
open Go.RowKit in
theorem Tryd.strings_Join_none (a : Option Addr) (c : Nat) (sep : ByteArray) (w : World) :
    Calls Tryd.prog 25 #[.slice a 0 c, .string sep] w fun e w' => e = .returned (.string ⟨#[]⟩) ∧ w' = w := Any.strings_Join_none Tryd.lays156 Tryd.Builder_Extra_156 a c sep w
open Go.RowKit in
theorem Tryd.strings_Join (bk o c : Nat) (xs : List ByteArray) (sep : ByteArray) (w : World) (hcells : ∀ (j : Nat) x, xs[j]? = some x → w.cell? ⟨bk, o + j, none⟩ = some (.string x)) (hbk : bk < w.heap.size) (hN : xs.length ≤ 140737488355328) (hcap : xs.length ≤ c) (hlen : (Lib.join (xs.map (·.data.toList)) sep.data.toList).length ≤ 140737488355328) :
    Calls Tryd.prog 25 #[.slice (some ⟨bk, o, none⟩) xs.length c, .string sep] w fun e w' => e = .returned (.string ⟨(Lib.join (xs.map (·.data.toList)) sep.data.toList).toArray⟩) ∧ Below w.heap.size w w' := Any.strings_Join Tryd.lays156 Tryd.Builder_Extra_156 bk o c xs sep w hcells hbk hN hcap hlen
def Tryd.lays106_ren : Go.Shelf.Ren := ⟨fun | 106 => 21 | 213 => 32 | 265 => 51 | n => n, fun | 9 => 9 | 3 => 3 | n => n, fun | n => n⟩
theorem Tryd.lays106 : Go.Proofs.Lays.n106 Tryd.prog Tryd.lays106_ren := {
  mixed := by kernel_rfl
  f106 := Tryd.func21.trans (congrArg some (by kernel_rfl))
  f213 := Tryd.func32.trans (congrArg some (by kernel_rfl))
  f265 := Tryd.func51.trans (congrArg some (by kernel_rfl))
  t3 := Tryd.underlying3
  a3 := Tryd.isAgg3
  z3 := Tryd.sizeOf3
  v3 := Tryd.zeroValue3
  t9 := Tryd.underlying9
  a9 := Tryd.isAgg9
  z9 := Tryd.sizeOf9
  v9 := Tryd.zeroValue9 }
open Go.RowKit in
theorem Tryd.strings_Compare (a b : ByteArray) (w : World) :
    Calls Tryd.prog 21 #[.string a, .string b] w fun e w' => e = .returned (.int .i64 (Lib.compareBytes a.data.toList b.data.toList)) ∧ w' = w := Any.strings_Compare Tryd.lays106 a b w
def Tryd.lays177_ren : Go.Shelf.Ren := ⟨fun | 177 => 22 | 250 => 33 | 289 => 52 | 197 => 63 | 323 => 64 | 260 => 73 | 339 => 74 | 340 => 75 | 242 => 76 | 119 => 77 | 345 => 86 | 346 => 87 | 278 => 88 | n => n, fun | 9 => 9 | 5 => 5 | 4 => 4 | 3 => 3 | 37 => 51 | 21 => 21 | 105 => 94 | 46 => 58 | 119 => 115 | 0 => 0 | 139 => 118 | 138 => 117 | 49 => 119 | 234 => 120 | 131 => 79 | 51 => 82 | 236 => 122 | n => n, fun | 3 => 2 | 4 => 3 | 20 => 4 | 21 => 5 | 22 => 6 | 23 => 7 | 24 => 8 | n => n⟩
theorem Tryd.lays177 : Go.Proofs.Lays.n177 Tryd.prog Tryd.lays177_ren := {
  mixed := by kernel_rfl
  f119 := Tryd.func77.trans (congrArg some (by kernel_rfl))
  f177 := Tryd.func22.trans (congrArg some (by kernel_rfl))
  f197 := Tryd.func63.trans (congrArg some (by kernel_rfl))
  f242 := Tryd.func76.trans (congrArg some (by kernel_rfl))
  f250 := Tryd.func33.trans (congrArg some (by kernel_rfl))
  f260 := Tryd.func73.trans (congrArg some (by kernel_rfl))
  f278 := Tryd.func88.trans (congrArg some (by kernel_rfl))
  f289 := Tryd.func52.trans (congrArg some (by kernel_rfl))
  f323 := Tryd.func64.trans (congrArg some (by kernel_rfl))
  f339 := Tryd.func74.trans (congrArg some (by kernel_rfl))
  f340 := Tryd.func75.trans (congrArg some (by kernel_rfl))
  f345 := Tryd.func86.trans (congrArg some (by kernel_rfl))
  f346 := Tryd.func87.trans (congrArg some (by kernel_rfl))
  t0 := Tryd.underlying0
  a0 := Tryd.isAgg0
  z0 := Tryd.sizeOf0
  v0 := Tryd.zeroValue0
  t3 := Tryd.underlying3
  a3 := Tryd.isAgg3
  z3 := Tryd.sizeOf3
  v3 := Tryd.zeroValue3
  t4 := Tryd.underlying4
  a4 := Tryd.isAgg4
  z4 := Tryd.sizeOf4
  v4 := Tryd.zeroValue4
  t5 := Tryd.underlying5
  a5 := Tryd.isAgg5
  z5 := Tryd.sizeOf5
  v5 := Tryd.zeroValue5
  t9 := Tryd.underlying9
  a9 := Tryd.isAgg9
  z9 := Tryd.sizeOf9
  v9 := Tryd.zeroValue9
  t21 := Tryd.underlying21
  a21 := Tryd.isAgg21
  z21 := Tryd.sizeOf21
  v21 := Tryd.zeroValue21
  t37 := Tryd.underlying51
  a37 := Tryd.isAgg51
  z37 := Tryd.sizeOf51
  v37 := Tryd.zeroValue51
  t46 := Tryd.underlying58
  a46 := Tryd.isAgg58
  z46 := Tryd.sizeOf58
  v46 := Tryd.zeroValue58
  t49 := Tryd.underlying119
  a49 := Tryd.isAgg119
  z49 := Tryd.sizeOf119
  v49 := Tryd.zeroValue119
  t51 := Tryd.underlying82
  a51 := Tryd.isAgg82
  z51 := Tryd.sizeOf82
  v51 := Tryd.zeroValue82
  t105 := Tryd.underlying94
  a105 := Tryd.isAgg94
  z105 := Tryd.sizeOf94
  v105 := Tryd.zeroValue94
  t119 := Tryd.underlying115
  a119 := Tryd.isAgg115
  z119 := Tryd.sizeOf115
  t131 := Tryd.underlying79
  a131 := Tryd.isAgg79
  z131 := Tryd.sizeOf79
  v131 := Tryd.zeroValue79
  t138 := Tryd.underlying117
  a138 := Tryd.isAgg117
  z138 := Tryd.sizeOf117
  v138 := Tryd.zeroValue117
  t139 := Tryd.underlying118
  a139 := Tryd.isAgg118
  z139 := Tryd.sizeOf118
  v139 := Tryd.zeroValue118
  t234 := Tryd.underlying120
  a234 := Tryd.isAgg120
  z234 := Tryd.sizeOf120
  v234 := Tryd.zeroValue120
  t236 := Tryd.underlying122
  a236 := Tryd.isAgg122
  z236 := Tryd.sizeOf122
  v236 := Tryd.zeroValue122
  g3 := by kernel_rfl
  g4 := by kernel_rfl
  g20 := by kernel_rfl
  g21 := by kernel_rfl
  g22 := by kernel_rfl
  g23 := by kernel_rfl
  g24 := by kernel_rfl }
open Go.RowKit in
theorem Tryd.strconv_Quote (T : Lib.PrintTabs) (s : ByteArray) (w : World) (hlen : 10 * s.size + 12 ≤ 140737488355328) (hT : Lib.PrintTabsAt 4 5 6 7 T w) (hU : Lib.Utf8Tabs 2 3 w) :
    Calls Tryd.prog 22 #[.string s] w fun e w' => e = .returned (.string (strOfNums (Lib.quoteZ T s))) ∧ Below w.heap.size w w' := Any.strconv_Quote Tryd.lays177 (by kernel_rfl) T s w hlen hT hU
def Tryd.laysM171_ren : Go.Shelf.Ren := ⟨fun | 171 => 29 | 243 => 40 | 246 => 57 | 283 => 68 | 284 => 69 | 285 => 70 | 286 => 71 | 129 => 50 | 317 => 82 | 318 => 83 | 319 => 84 | 320 => 85 | 337 => 91 | 338 => 92 | n => n, fun | 3 => 3 | 9 => 9 | 2 => 2 | 4 => 4 | 171 => 100 | 0 => 0 | 53 => 84 | 37 => 51 | 5 => 5 | 173 => 102 | 212 => 112 | 51 => 82 | 20 => 20 | 213 => 113 | 46 => 58 | 232 => 126 | 233 => 127 | n => n, fun | 17 => 1 | 18 => 9 | 19 => 10 | n => n⟩
theorem Tryd.laysM171 : Go.Proofs.LaysM.n171 Tryd.prog Tryd.laysM171_ren := {
  mixed := by kernel_rfl
  f129 := Tryd.func50.trans (congrArg some (by kernel_rfl))
  f171 := Tryd.func29.trans (congrArg some (by kernel_rfl))
  f243 := Tryd.func40.trans (congrArg some (by kernel_rfl))
  f246 := Tryd.func57.trans (congrArg some (by kernel_rfl))
  f283 := Tryd.func68.trans (congrArg some (by kernel_rfl))
  f284 := Tryd.func69.trans (congrArg some (by kernel_rfl))
  f285 := Tryd.func70.trans (congrArg some (by kernel_rfl))
  f286 := Tryd.func71.trans (congrArg some (by kernel_rfl))
  f317 := Tryd.func82.trans (congrArg some (by kernel_rfl))
  f318 := Tryd.func83.trans (congrArg some (by kernel_rfl))
  f319 := Tryd.func84.trans (congrArg some (by kernel_rfl))
  f320 := Tryd.func85.trans (congrArg some (by kernel_rfl))
  f337 := Tryd.func91.trans (congrArg some (by kernel_rfl))
  f338 := Tryd.func92.trans (congrArg some (by kernel_rfl))
  t0 := Tryd.underlying0
  a0 := Tryd.isAgg0
  z0 := Tryd.sizeOf0
  v0 := Tryd.zeroValue0
  t2 := Tryd.underlying2
  a2 := Tryd.isAgg2
  z2 := Tryd.sizeOf2
  v2 := Tryd.zeroValue2
  t3 := Tryd.underlying3
  a3 := Tryd.isAgg3
  z3 := Tryd.sizeOf3
  v3 := Tryd.zeroValue3
  t4 := Tryd.underlying4
  a4 := Tryd.isAgg4
  z4 := Tryd.sizeOf4
  v4 := Tryd.zeroValue4
  t5 := Tryd.underlying5
  a5 := Tryd.isAgg5
  z5 := Tryd.sizeOf5
  v5 := Tryd.zeroValue5
  t9 := Tryd.underlying9
  a9 := Tryd.isAgg9
  z9 := Tryd.sizeOf9
  v9 := Tryd.zeroValue9
  t20 := Tryd.underlying20
  a20 := Tryd.isAgg20
  z20 := Tryd.sizeOf20
  v20 := Tryd.zeroValue20
  t37 := Tryd.underlying51
  a37 := Tryd.isAgg51
  z37 := Tryd.sizeOf51
  v37 := Tryd.zeroValue51
  t46 := Tryd.underlying58
  a46 := Tryd.isAgg58
  z46 := Tryd.sizeOf58
  v46 := Tryd.zeroValue58
  t51 := Tryd.underlying82
  a51 := Tryd.isAgg82
  z51 := Tryd.sizeOf82
  v51 := Tryd.zeroValue82
  t53 := Tryd.underlying84
  a53 := Tryd.isAgg84
  z53 := Tryd.sizeOf84
  v53 := Tryd.zeroValue84
  t171 := Tryd.underlying100
  a171 := Tryd.isAgg100
  z171 := Tryd.sizeOf100
  v171 := Tryd.zeroValue100
  t173 := Tryd.underlying102
  a173 := Tryd.isAgg102
  z173 := Tryd.sizeOf102
  v173 := Tryd.zeroValue102
  t212 := Tryd.underlying112
  a212 := Tryd.isAgg112
  z212 := Tryd.sizeOf112
  v212 := Tryd.zeroValue112
  t213 := Tryd.underlying113
  a213 := Tryd.isAgg113
  z213 := Tryd.sizeOf113
  t232 := Tryd.underlying126
  a232 := Tryd.isAgg126
  z232 := Tryd.sizeOf126
  v232 := Tryd.zeroValue126
  t233 := Tryd.underlying127
  a233 := Tryd.isAgg127
  z233 := Tryd.sizeOf127
  v233 := Tryd.zeroValue127
  g17 := by kernel_rfl
  g18 := by kernel_rfl
  g19 := by kernel_rfl
  i0 := by kernel_rfl
  i2 := by kernel_rfl
  i3 := by kernel_rfl
  i4 := by kernel_rfl
  i5 := by kernel_rfl
  i9 := by kernel_rfl
  i20 := by kernel_rfl
  i37 := by kernel_rfl
  i46 := by kernel_rfl
  i51 := by kernel_rfl
  i53 := by kernel_rfl
  i171 := by kernel_rfl
  i173 := by kernel_rfl
  i212 := by kernel_rfl
  i232 := by kernel_rfl
  i233 := by kernel_rfl
  m17 := by kernel_rfl
  m18 := by kernel_rfl
  m19 := by kernel_rfl }
open Go.RowKit Go.Sort Go.Lib in
theorem Tryd.strconv_Itoa (n : Int) (h0 : -9223372036854775808 ≤ n) (h1 : n ≤ 9223372036854775807) (w : World) (htab : Lib.TabIs Tryd.prog w "internal/strconv.uint64pow10" .u64 Lib.pow10Tab) :
    Calls Tryd.prog 29 #[.int .i64 n] w fun e w' => e = .returned (.string ⟨(Lib.itoa n).toArray⟩) ∧ ∃ k os, w' = grow (w.drewN k) os := Any.strconv_Itoa Tryd.laysM171 n h0 h1 w htab
def Tryd.lays219_ren : Go.Shelf.Ren := ⟨fun | 219 => 65 | 217 => 78 | 225 => 79 | 224 => 80 | 267 => 81 | 266 => 89 | 314 => 90 | n => n, fun | 9 => 9 | 3 => 3 | 4 => 4 | 5 => 5 | 46 => 58 | 146 => 124 | 51 => 82 | n => n, fun | 1 => 0 | n => n⟩
theorem Tryd.lays219 : Go.Proofs.Lays.n219 Tryd.prog Tryd.lays219_ren := {
  mixed := by kernel_rfl
  f217 := Tryd.func78.trans (congrArg some (by kernel_rfl))
  f219 := Tryd.func65.trans (congrArg some (by kernel_rfl))
  f224 := Tryd.func80.trans (congrArg some (by kernel_rfl))
  f225 := Tryd.func79.trans (congrArg some (by kernel_rfl))
  f266 := Tryd.func89.trans (congrArg some (by kernel_rfl))
  f267 := Tryd.func81.trans (congrArg some (by kernel_rfl))
  f314 := Tryd.func90.trans (congrArg some (by kernel_rfl))
  t3 := Tryd.underlying3
  a3 := Tryd.isAgg3
  z3 := Tryd.sizeOf3
  v3 := Tryd.zeroValue3
  t4 := Tryd.underlying4
  a4 := Tryd.isAgg4
  z4 := Tryd.sizeOf4
  v4 := Tryd.zeroValue4
  t5 := Tryd.underlying5
  a5 := Tryd.isAgg5
  z5 := Tryd.sizeOf5
  v5 := Tryd.zeroValue5
  t9 := Tryd.underlying9
  a9 := Tryd.isAgg9
  z9 := Tryd.sizeOf9
  v9 := Tryd.zeroValue9
  t46 := Tryd.underlying58
  a46 := Tryd.isAgg58
  z46 := Tryd.sizeOf58
  v46 := Tryd.zeroValue58
  t51 := Tryd.underlying82
  a51 := Tryd.isAgg82
  z51 := Tryd.sizeOf82
  v51 := Tryd.zeroValue82
  t146 := Tryd.underlying124
  a146 := Tryd.isAgg124
  z146 := Tryd.sizeOf124
  v146 := Tryd.zeroValue124
  g1 := by kernel_rfl }
open Go.RowKit Go.Lib in
theorem Tryd.stringslite_Index_one (s : ByteArray) (c : UInt8) (w : World) :
    Calls Tryd.prog 65 #[.string s, .string ⟨#[c]⟩] w fun e w' => e = .returned (.int .i64 (Lib.indexByte s.data.toList c)) ∧ w' = w := Any.stringslite_Index_one Tryd.lays219 s c w
def Tryd.lays144_ren : Go.Shelf.Ren := ⟨fun | 144 => 35 | 143 => 54 | 219 => 65 | 217 => 78 | 225 => 79 | 224 => 80 | 267 => 81 | 266 => 89 | 314 => 90 | n => n, fun | 9 => 9 | 4 => 4 | 3 => 3 | 5 => 5 | 46 => 58 | 146 => 124 | 51 => 82 | n => n, fun | 1 => 0 | n => n⟩
theorem Tryd.lays144 : Go.Proofs.Lays.n144 Tryd.prog Tryd.lays144_ren := {
  mixed := by kernel_rfl
  f143 := Tryd.func54.trans (congrArg some (by kernel_rfl))
  f144 := Tryd.func35.trans (congrArg some (by kernel_rfl))
  f217 := Tryd.func78.trans (congrArg some (by kernel_rfl))
  f219 := Tryd.func65.trans (congrArg some (by kernel_rfl))
  f224 := Tryd.func80.trans (congrArg some (by kernel_rfl))
  f225 := Tryd.func79.trans (congrArg some (by kernel_rfl))
  f266 := Tryd.func89.trans (congrArg some (by kernel_rfl))
  f267 := Tryd.func81.trans (congrArg some (by kernel_rfl))
  f314 := Tryd.func90.trans (congrArg some (by kernel_rfl))
  t3 := Tryd.underlying3
  a3 := Tryd.isAgg3
  z3 := Tryd.sizeOf3
  v3 := Tryd.zeroValue3
  t4 := Tryd.underlying4
  a4 := Tryd.isAgg4
  z4 := Tryd.sizeOf4
  v4 := Tryd.zeroValue4
  t5 := Tryd.underlying5
  a5 := Tryd.isAgg5
  z5 := Tryd.sizeOf5
  v5 := Tryd.zeroValue5
  t9 := Tryd.underlying9
  a9 := Tryd.isAgg9
  z9 := Tryd.sizeOf9
  v9 := Tryd.zeroValue9
  t46 := Tryd.underlying58
  a46 := Tryd.isAgg58
  z46 := Tryd.sizeOf58
  v46 := Tryd.zeroValue58
  t51 := Tryd.underlying82
  a51 := Tryd.isAgg82
  z51 := Tryd.sizeOf82
  v51 := Tryd.zeroValue82
  t146 := Tryd.underlying124
  a146 := Tryd.isAgg124
  z146 := Tryd.sizeOf124
  v146 := Tryd.zeroValue124
  g1 := by kernel_rfl }
open Go.RowKit Go.Lib in
theorem Tryd.strings_Contains_one (s : ByteArray) (c : UInt8) (w : World) :
    Calls Tryd.prog 35 #[.string s, .string ⟨#[c]⟩] w fun e w' => e = .returned (.bool (decide (0 ≤ Lib.indexByte s.data.toList c))) ∧ w' = w := Any.strings_Contains_one Tryd.lays144 s c w
def Tryd.lays110_ren : Go.Shelf.Ren := ⟨fun | 110 => 16 | 109 => 28 | n => n, fun | 31 => 23 | 9 => 9 | 4 => 4 | 3 => 3 | 0 => 0 | n => n, fun | n => n⟩
theorem Tryd.lays110 : Go.Proofs.Lays.n110 Tryd.prog Tryd.lays110_ren := {
  mixed := by kernel_rfl
  f109 := Tryd.func28.trans (congrArg some (by kernel_rfl))
  f110 := Tryd.func16.trans (congrArg some (by kernel_rfl))
  t0 := Tryd.underlying0
  a0 := Tryd.isAgg0
  z0 := Tryd.sizeOf0
  v0 := Tryd.zeroValue0
  t3 := Tryd.underlying3
  a3 := Tryd.isAgg3
  z3 := Tryd.sizeOf3
  v3 := Tryd.zeroValue3
  t4 := Tryd.underlying4
  a4 := Tryd.isAgg4
  z4 := Tryd.sizeOf4
  v4 := Tryd.zeroValue4
  t9 := Tryd.underlying9
  a9 := Tryd.isAgg9
  z9 := Tryd.sizeOf9
  v9 := Tryd.zeroValue9
  t31 := Tryd.underlying23
  a31 := Tryd.isAgg23
  z31 := Tryd.sizeOf23
  v31 := Tryd.zeroValue23 }
open Go.Lib in
theorem Tryd.slices_Contains_string (b off n c : Nat) (zs : List ByteArray) (x : ByteArray) (w : World) (hz : n ≤ zs.length) (hbig : n ≤ 9223372036854775807) (hc : ∀ j, j < zs.length → w.cell? ⟨b, off + j, none⟩ = some (.string (zs.getD j ByteArray.empty))) :
    Calls Tryd.prog 16 #[.slice (some ⟨b, off, none⟩) n c, .string x] w fun e w' => e = .returned (.bool (Lib.containsS (zs.take n) x)) ∧ w' = w := Any.slices_Contains_string Tryd.lays110 b off n c zs x w hz hbig hc
open Go.Lib in
theorem Tryd.slices_Contains_string_empty (a : Option Addr) (c : Nat) (x : ByteArray) (w : World) :
    Calls Tryd.prog 16 #[.slice a 0 c, .string x] w fun e w' => e = .returned (.bool false) ∧ w' = w := Any.slices_Contains_string_empty Tryd.lays110 a c x w
def Tryd.laysSort_ren : Go.Shelf.Ren := ⟨fun | 6 => 19 | 15 => 31 | 14 => 30 | 28 => 49 | 29 => 50 | 20 => 41 | 21 => 42 | 22 => 43 | 23 => 44 | 24 => 45 | 25 => 46 | 26 => 47 | 27 => 48 | 46 => 58 | 47 => 59 | 48 => 60 | 49 => 61 | 50 => 62 | 57 => 72 | n => n, fun | 22 => 42 | 24 => 41 | 25 => 48 | 3 => 3 | 39 => 58 | 0 => 0 | 53 => 82 | 55 => 84 | 4 => 4 | 46 => 75 | 45 => 74 | 50 => 79 | 5 => 5 | 9 => 9 | 66 => 88 | 70 => 92 | 76 => 104 | 77 => 105 | n => n, fun | n => n⟩
theorem Tryd.laysSort : Go.Proofs.SlLaysF0.n6 Tryd.prog Tryd.laysSort_ren := {
  mixed := by kernel_rfl
  f6 := ⟨Tryd.f19.name, by decide, Tryd.func19.trans (congrArg some (by kernel_rfl))⟩
  f14 := ⟨Tryd.f30.name, by decide, Tryd.func30.trans (congrArg some (by kernel_rfl))⟩
  f15 := Tryd.func31.trans (congrArg some (by kernel_rfl))
  f20 := ⟨Tryd.f41.name, by decide, Tryd.func41.trans (congrArg some (by kernel_rfl))⟩
  f21 := ⟨Tryd.f42.name, by decide, Tryd.func42.trans (congrArg some (by kernel_rfl))⟩
  f22 := ⟨Tryd.f43.name, by decide, Tryd.func43.trans (congrArg some (by kernel_rfl))⟩
  f23 := ⟨Tryd.f44.name, by decide, Tryd.func44.trans (congrArg some (by kernel_rfl))⟩
  f24 := ⟨Tryd.f45.name, by decide, Tryd.func45.trans (congrArg some (by kernel_rfl))⟩
  f25 := ⟨Tryd.f46.name, by decide, Tryd.func46.trans (congrArg some (by kernel_rfl))⟩
  f26 := ⟨Tryd.f47.name, by decide, Tryd.func47.trans (congrArg some (by kernel_rfl))⟩
  f27 := ⟨Tryd.f48.name, by decide, Tryd.func48.trans (congrArg some (by kernel_rfl))⟩
  f28 := Tryd.func49.trans (congrArg some (by kernel_rfl))
  f29 := Tryd.func50.trans (congrArg some (by kernel_rfl))
  f46 := ⟨Tryd.f58.name, by decide, Tryd.func58.trans (congrArg some (by kernel_rfl))⟩
  f47 := Tryd.func59.trans (congrArg some (by kernel_rfl))
  f48 := Tryd.func60.trans (congrArg some (by kernel_rfl))
  f49 := ⟨Tryd.f61.name, by decide, Tryd.func61.trans (congrArg some (by kernel_rfl))⟩
  f50 := ⟨Tryd.f62.name, by decide, Tryd.func62.trans (congrArg some (by kernel_rfl))⟩
  f57 := ⟨Tryd.f72.name, by decide, Tryd.func72.trans (congrArg some (by kernel_rfl))⟩
  t0 := Tryd.underlying0
  a0 := Tryd.isAgg0
  z0 := Tryd.sizeOf0
  v0 := Tryd.zeroValue0
  t3 := Tryd.underlying3
  a3 := Tryd.isAgg3
  z3 := Tryd.sizeOf3
  v3 := Tryd.zeroValue3
  t4 := Tryd.underlying4
  a4 := Tryd.isAgg4
  z4 := Tryd.sizeOf4
  v4 := Tryd.zeroValue4
  t5 := Tryd.underlying5
  a5 := Tryd.isAgg5
  z5 := Tryd.sizeOf5
  v5 := Tryd.zeroValue5
  t9 := Tryd.underlying9
  a9 := Tryd.isAgg9
  z9 := Tryd.sizeOf9
  v9 := Tryd.zeroValue9
  t22 := Tryd.underlying42
  a22 := Tryd.isAgg42
  z22 := Tryd.sizeOf42
  v22 := Tryd.zeroValue42
  t25 := Tryd.underlying48
  a25 := Tryd.isAgg48
  z25 := Tryd.sizeOf48
  v25 := Tryd.zeroValue48
  t39 := Tryd.underlying58
  a39 := Tryd.isAgg58
  z39 := Tryd.sizeOf58
  v39 := Tryd.zeroValue58
  t45 := Tryd.underlying74
  a45 := Tryd.isAgg74
  z45 := Tryd.sizeOf74
  v45 := Tryd.zeroValue74
  t46 := Tryd.underlying75
  a46 := Tryd.isAgg75
  z46 := Tryd.sizeOf75
  v46 := Tryd.zeroValue75
  t50 := Tryd.underlying79
  a50 := Tryd.isAgg79
  z50 := Tryd.sizeOf79
  v50 := Tryd.zeroValue79
  t53 := Tryd.underlying82
  a53 := Tryd.isAgg82
  z53 := Tryd.sizeOf82
  v53 := Tryd.zeroValue82
  t55 := Tryd.underlying84
  a55 := Tryd.isAgg84
  z55 := Tryd.sizeOf84
  v55 := Tryd.zeroValue84
  t66 := Tryd.underlying88
  a66 := Tryd.isAgg88
  z66 := Tryd.sizeOf88
  v66 := Tryd.zeroValue88
  t70 := Tryd.underlying92
  a70 := Tryd.isAgg92
  z70 := Tryd.sizeOf92
  v70 := Tryd.zeroValue92
  t76 := Tryd.underlying104
  a76 := Tryd.isAgg104
  z76 := Tryd.sizeOf104
  v76 := Tryd.zeroValue104
  t77 := Tryd.underlying105
  a77 := Tryd.isAgg105
  z77 := Tryd.sizeOf105
  v77 := Tryd.zeroValue105 }
end Go.Proofs
