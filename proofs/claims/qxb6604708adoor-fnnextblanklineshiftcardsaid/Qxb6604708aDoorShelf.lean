/-
  The library's contracts that this proof uses, laid at this seat's translation by the kit's lay-shelf and lay-plain (their remarks struck).
-/
import Derived.Shelf.Small.Utf8
import Derived.Shelf.Bytes.SlIndexAt
import Derived.Shelf.Bytes.SlSearch0
import Derived.Shelf.Bytes.SlSmallAll
import Derived.Shelf.Bytes.SlEqualAll
import Derived.Shelf.Bytes.Small
import Derived.Shelf.Bytes.IndexByte
import Derived.Test.Qxb6604708aDoorProg
import Derived.Shelf.Bytes.SlTrim
namespace Go.Proofs
open Go.Shelf
def Tryd.lays187_ren : Go.Shelf.Ren := ⟨fun | 187 => 39 | 255 => 48 | n => n, fun | 37 => 25 | 5 => 5 | 3 => 3 | n => n, fun | n => n⟩
theorem Tryd.lays187 : Go.Proofs.Lays.n187 Tryd.prog Tryd.lays187_ren := {
  mixed := by kernel_rfl
  f187 := Tryd.func39.trans (congrArg some (by kernel_rfl))
  f255 := Tryd.func48.trans (congrArg some (by kernel_rfl))
  t3 := Tryd.underlying3
  a3 := Tryd.isAgg3
  z3 := Tryd.sizeOf3
  v3 := Tryd.zeroValue3
  t5 := Tryd.underlying5
  a5 := Tryd.isAgg5
  z5 := Tryd.sizeOf5
  v5 := Tryd.zeroValue5
  t37 := Tryd.underlying25
  a37 := Tryd.isAgg25
  z37 := Tryd.sizeOf25
  v37 := Tryd.zeroValue25 }
open Go.RowKit Go.Lib in
theorem Tryd.bytes_IndexByte_at (a : Addr) (n c : Nat) (xs : List Int) (cv : Int) (w : World) (hx : xs.length = n) (hc : ∀ i, i < n → w.cell? (a.add i) = some (.int .u8 (xs.getD i 0))) :
    Calls Tryd.prog 39 #[.slice (some a) n c, .int .u8 cv] w fun e w' => e = .returned (.int .i64 (Lib.indexByte (Lib.bytesOf xs) cv.toNat.toUInt8)) ∧ w' = w := Any.bytes_IndexByte_at Tryd.lays187 a n c xs cv w hx hc
def Tryd.laysnb140_ren : Go.Shelf.Ren := ⟨fun | 140 => 30 | 117 => 43 | 115 => 49 | n => n, fun | 37 => 25 | 4 => 4 | 3 => 3 | 9 => 9 | 5 => 5 | n => n, fun | n => n⟩
theorem Tryd.laysnb140 : Go.Proofs.Lays.nb140 Tryd.prog Tryd.laysnb140_ren := {
  mixed := by kernel_rfl
  f115 := Tryd.func49.trans (congrArg some (by kernel_rfl))
  f117 := Tryd.func43.trans (congrArg some (by kernel_rfl))
  f140 := Tryd.func30.trans (congrArg some (by kernel_rfl))
  t3 := Tryd.underlying3
  a3 := Tryd.isAgg3
  z3 := Tryd.sizeOf3
  v3 := Tryd.zeroValue3
  t4 := Tryd.underlying4
  a4 := Tryd.isAgg4
  z4 := Tryd.sizeOf4
  v4 := Tryd.zeroValue4
  t9 := Tryd.underlying9
  a9 := Tryd.isAgg9
  z9 := Tryd.sizeOf9
  v9 := Tryd.zeroValue9
  t37 := Tryd.underlying25
  a37 := Tryd.isAgg25
  z37 := Tryd.sizeOf25
  v37 := Tryd.zeroValue25
  t5 := Tryd.underlying5
  a5 := Tryd.isAgg5
  z5 := Tryd.sizeOf5
  v5 := Tryd.zeroValue5 }
theorem Tryd.bytes_TrimSuffix_all (p1 p2 : Option Addr) (n c m d : Nat) (xs ys : List Int) (w : World) (hx : xs.length = n) (hy : ys.length = m) (hnc : n ≤ c) (hbig : n ≤ 9223372036854775807) (h1 : Lib.BytesIn w p1 n xs) (h2 : Lib.BytesIn w p2 m ys) :
    Calls Tryd.prog 30 #[.slice p1 n c, .slice p2 m d] w fun e w' => e = .returned (Lib.trimSuffixV p1 n c xs ys) ∧ w' = w := Any.bytes_TrimSuffix_all Tryd.laysnb140 p1 p2 n c m d xs ys w hx hy hnc hbig h1 h2
def Tryd.lays6_ren : Go.Shelf.Ren := ⟨fun | 6 => 27 | 10 => 32 | 9 => 31 | 11 => 33 | 13 => 35 | 12 => 34 | 15 => 37 | 14 => 36 | 16 => 44 | 19 => 47 | 18 => 46 | 17 => 45 | 21 => 51 | 20 => 50 | n => n, fun | 22 => 25 | 9 => 9 | 3 => 3 | 4 => 4 | 5 => 5 | 28 => 59 | 27 => 58 | 0 => 0 | 31 => 62 | 21 => 21 | 33 => 71 | 36 => 76 | 37 => 77 | 40 => 80 | 39 => 79 | n => n, fun | 0 => 5 | 1 => 6 | n => n⟩
theorem Tryd.lays6 : Go.Proofs.SlLaysV.n6 Tryd.prog Tryd.lays6_ren := {
  mixed := by kernel_rfl
  f6 := Tryd.func27.trans (congrArg some (by kernel_rfl))
  f9 := Tryd.func31.trans (congrArg some (by kernel_rfl))
  f10 := Tryd.func32.trans (congrArg some (by kernel_rfl))
  f11 := Tryd.func33.trans (congrArg some (by kernel_rfl))
  f12 := Tryd.func34.trans (congrArg some (by kernel_rfl))
  f13 := Tryd.func35.trans (congrArg some (by kernel_rfl))
  f14 := Tryd.func36.trans (congrArg some (by kernel_rfl))
  f15 := Tryd.func37.trans (congrArg some (by kernel_rfl))
  f16 := Tryd.func44.trans (congrArg some (by kernel_rfl))
  f17 := Tryd.func45.trans (congrArg some (by kernel_rfl))
  f18 := Tryd.func46.trans (congrArg some (by kernel_rfl))
  f19 := Tryd.func47.trans (congrArg some (by kernel_rfl))
  f20 := Tryd.func50.trans (congrArg some (by kernel_rfl))
  f21 := Tryd.func51.trans (congrArg some (by kernel_rfl))
  t0 := Tryd.underlying0
  a0 := Tryd.isAgg0
  z0 := Tryd.sizeOf0
  v0 := Tryd.zeroValue0
  t3 := Tryd.underlying3
  a3 := Tryd.isAgg3
  z3 := Tryd.sizeOf3
  v3 := Tryd.zeroValue3
  t4 := Tryd.underlying4
  a4 := Tryd.isAgg4
  z4 := Tryd.sizeOf4
  v4 := Tryd.zeroValue4
  t5 := Tryd.underlying5
  a5 := Tryd.isAgg5
  z5 := Tryd.sizeOf5
  v5 := Tryd.zeroValue5
  t9 := Tryd.underlying9
  a9 := Tryd.isAgg9
  z9 := Tryd.sizeOf9
  v9 := Tryd.zeroValue9
  t21 := Tryd.underlying21
  a21 := Tryd.isAgg21
  z21 := Tryd.sizeOf21
  v21 := Tryd.zeroValue21
  t22 := Tryd.underlying25
  a22 := Tryd.isAgg25
  z22 := Tryd.sizeOf25
  v22 := Tryd.zeroValue25
  t27 := Tryd.underlying58
  a27 := Tryd.isAgg58
  z27 := Tryd.sizeOf58
  t28 := Tryd.underlying59
  a28 := Tryd.isAgg59
  z28 := Tryd.sizeOf59
  v28 := Tryd.zeroValue59
  t31 := Tryd.underlying62
  a31 := Tryd.isAgg62
  z31 := Tryd.sizeOf62
  v31 := Tryd.zeroValue62
  t33 := Tryd.underlying71
  a33 := Tryd.isAgg71
  z33 := Tryd.sizeOf71
  v33 := Tryd.zeroValue71
  t36 := Tryd.underlying76
  a36 := Tryd.isAgg76
  z36 := Tryd.sizeOf76
  t37 := Tryd.underlying77
  a37 := Tryd.isAgg77
  z37 := Tryd.sizeOf77
  v37 := Tryd.zeroValue77
  t39 := Tryd.underlying79
  a39 := Tryd.isAgg79
  z39 := Tryd.sizeOf79
  v39 := Tryd.zeroValue79
  t40 := Tryd.underlying80
  a40 := Tryd.isAgg80
  z40 := Tryd.sizeOf80
  v40 := Tryd.zeroValue80 }
end Go.Proofs
