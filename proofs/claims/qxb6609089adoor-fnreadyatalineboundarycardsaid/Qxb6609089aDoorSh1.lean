/-
  The library contracts that this seat's walks use, laid at this program (by the guide's own tools, in plain words).
-/
import Derived.Shelf.Bytes.IndexByte
import Derived.Shelf.Bytes.SlSmallAll
import Derived.Shelf.Spec.BytesTrimFunc
import Derived.Shelf.Strings.FieldsAny
import Derived.Ground.Names7Prog
import Derived.Test.Qxb6609089aDoorProg
namespace Go.Proofs
open Go.Shelf
def Tryd.lays187_ren : Go.Shelf.Ren := ⟨fun | 187 => 22 | 255 => 33 | n => n, fun | 37 => 30 | 5 => 5 | 3 => 3 | n => n, fun | n => n⟩
theorem Tryd.lays187 : Go.Proofs.Lays.n187 Tryd.prog Tryd.lays187_ren := {
  mixed := by kernel_rfl
  f187 := Tryd.func22.trans (congrArg some (by kernel_rfl))
  f255 := Tryd.func33.trans (congrArg some (by kernel_rfl))
  t3 := Tryd.underlying3
  a3 := Tryd.isAgg3
  z3 := Tryd.sizeOf3
  v3 := Tryd.zeroValue3
  t5 := Tryd.underlying5
  a5 := Tryd.isAgg5
  z5 := Tryd.sizeOf5
  v5 := Tryd.zeroValue5
  t37 := Tryd.underlying30
  a37 := Tryd.isAgg30
  z37 := Tryd.sizeOf30
  v37 := Tryd.zeroValue30 }
open Go.RowKit in
theorem Tryd.bytes_IndexByte (b o n c : Nat) (xs : List Int) (x : Int) (w : World) (hx : xs.length = n) (hc : ∀ i, i < n → w.cell? ⟨b, o + i, none⟩ = some (.int .u8 (xs.getD i 0))) :
    Calls Tryd.prog 22 #[.slice (some ⟨b, o, none⟩) n c, .int .u8 x] w fun e w' => e = .returned (.int .i64 (Lib.indexByte (Lib.bytesOf xs) x.toNat.toUInt8)) ∧ w' = w := Any.bytes_IndexByte Tryd.lays187 b o n c xs x w hx hc
def Tryd.laysb140_ren : Go.Shelf.Ren := ⟨fun | 140 => 23 | 117 => 34 | 115 => 44 | n => n, fun | 37 => 30 | 4 => 4 | 3 => 3 | 9 => 9 | 5 => 5 | n => n, fun | n => n⟩
theorem Tryd.laysb140 : Go.Proofs.Lays.nb140 Tryd.prog Tryd.laysb140_ren := {
  mixed := by kernel_rfl
  f115 := Tryd.func44.trans (congrArg some (by kernel_rfl))
  f117 := Tryd.func34.trans (congrArg some (by kernel_rfl))
  f140 := Tryd.func23.trans (congrArg some (by kernel_rfl))
  t3 := Tryd.underlying3
  a3 := Tryd.isAgg3
  z3 := Tryd.sizeOf3
  v3 := Tryd.zeroValue3
  t4 := Tryd.underlying4
  a4 := Tryd.isAgg4
  z4 := Tryd.sizeOf4
  v4 := Tryd.zeroValue4
  t9 := Tryd.underlying9
  a9 := Tryd.isAgg9
  z9 := Tryd.sizeOf9
  v9 := Tryd.zeroValue9
  t37 := Tryd.underlying30
  a37 := Tryd.isAgg30
  z37 := Tryd.sizeOf30
  v37 := Tryd.zeroValue30
  t5 := Tryd.underlying5
  a5 := Tryd.isAgg5
  z5 := Tryd.sizeOf5
  v5 := Tryd.zeroValue5 }
open Go.RowKit in
theorem Tryd.bytes_TrimSuffix (p1 p2 : Option Addr) (n c m d : Nat) (xs ys : List Int) (w : World) (hx : xs.length = n) (hy : ys.length = m) (hnc : n ≤ c) (hbig : n ≤ 9223372036854775807) (h1 : Lib.BytesIn w p1 n xs) (h2 : Lib.BytesIn w p2 m ys) :
    Calls Tryd.prog 23 #[.slice p1 n c, .slice p2 m d] w fun e w' => e = .returned (Lib.trimSuffixV p1 n c xs ys) ∧ w' = w := Any.bytes_TrimSuffix_all Tryd.laysb140 p1 p2 n c m d xs ys w hx hy hnc hbig h1 h2
def Tryd.lays743_ren : Go.Shelf.Ren := ⟨fun | 43 => 24 | 55 => 35 | 32 => 45 | 49 => 50 | n => n, fun | 30 => 30 | 48 => 64 | 4 => 4 | 3 => 3 | 33 => 68 | 21 => 21 | 0 => 0 | 5 => 5 | 66 => 81 | 25 => 78 | 69 => 84 | 68 => 83 | n => n, fun | 2 => 3 | 3 => 4 | n => n⟩
theorem Tryd.lays743 : Go.Proofs.Lays7.n43 Tryd.prog Tryd.lays743_ren := {
  mixed := by kernel_rfl
  f32 := Tryd.func45.trans (congrArg some (by kernel_rfl))
  f43 := Tryd.func24.trans (congrArg some (by kernel_rfl))
  f49 := Tryd.func50.trans (congrArg some (by kernel_rfl))
  f55 := Tryd.func35.trans (congrArg some (by kernel_rfl))
  t0 := Tryd.underlying0
  a0 := Tryd.isAgg0
  z0 := Tryd.sizeOf0
  v0 := Tryd.zeroValue0
  i0 := by kernel_rfl
  t3 := Tryd.underlying3
  a3 := Tryd.isAgg3
  z3 := Tryd.sizeOf3
  v3 := Tryd.zeroValue3
  i3 := by kernel_rfl
  t4 := Tryd.underlying4
  a4 := Tryd.isAgg4
  z4 := Tryd.sizeOf4
  v4 := Tryd.zeroValue4
  i4 := by kernel_rfl
  t5 := Tryd.underlying5
  a5 := Tryd.isAgg5
  z5 := Tryd.sizeOf5
  v5 := Tryd.zeroValue5
  i5 := by kernel_rfl
  t21 := Tryd.underlying21
  a21 := Tryd.isAgg21
  z21 := Tryd.sizeOf21
  v21 := Tryd.zeroValue21
  i21 := by kernel_rfl
  t25 := Tryd.underlying78
  a25 := Tryd.isAgg78
  z25 := Tryd.sizeOf78
  v25 := Tryd.zeroValue78
  i25 := by kernel_rfl
  t30 := Tryd.underlying30
  a30 := Tryd.isAgg30
  z30 := Tryd.sizeOf30
  v30 := Tryd.zeroValue30
  i30 := by kernel_rfl
  t33 := Tryd.underlying68
  a33 := Tryd.isAgg68
  z33 := Tryd.sizeOf68
  v33 := Tryd.zeroValue68
  i33 := by kernel_rfl
  t48 := Tryd.underlying64
  a48 := Tryd.isAgg64
  z48 := Tryd.sizeOf64
  v48 := Tryd.zeroValue64
  i48 := by kernel_rfl
  t66 := Tryd.underlying81
  a66 := Tryd.isAgg81
  z66 := Tryd.sizeOf81
  t68 := Tryd.underlying83
  a68 := Tryd.isAgg83
  z68 := Tryd.sizeOf83
  v68 := Tryd.zeroValue83
  i68 := by kernel_rfl
  t69 := Tryd.underlying84
  a69 := Tryd.isAgg84
  z69 := Tryd.sizeOf84
  v69 := Tryd.zeroValue84
  i69 := by kernel_rfl
  g2 := by kernel_rfl
  g3 := by kernel_rfl }
def Tryd.lays199_ren : Go.Shelf.Ren := ⟨fun | 199 => 25 | 261 => 36 | 311 => 46 | 312 => 47 | n => n, fun | 21 => 21 | 4 => 4 | 51 => 75 | 141 => 77 | 0 => 0 | 196 => 91 | 193 => 88 | 3 => 3 | 198 => 94 | 49 => 92 | 194 => 89 | 201 => 97 | 226 => 99 | 46 => 78 | 227 => 100 | n => n, fun | 6 => 2 | n => n⟩
theorem Tryd.lays199 : Go.Proofs.Lays.n199 Tryd.prog Tryd.lays199_ren := {
  mixed := by kernel_rfl
  f199 := Tryd.func25.trans (congrArg some (by kernel_rfl))
  f261 := Tryd.func36.trans (congrArg some (by kernel_rfl))
  f311 := Tryd.func46.trans (congrArg some (by kernel_rfl))
  f312 := Tryd.func47.trans (congrArg some (by kernel_rfl))
  t0 := Tryd.underlying0
  a0 := Tryd.isAgg0
  z0 := Tryd.sizeOf0
  v0 := Tryd.zeroValue0
  t3 := Tryd.underlying3
  a3 := Tryd.isAgg3
  z3 := Tryd.sizeOf3
  v3 := Tryd.zeroValue3
  t4 := Tryd.underlying4
  a4 := Tryd.isAgg4
  z4 := Tryd.sizeOf4
  v4 := Tryd.zeroValue4
  t21 := Tryd.underlying21
  a21 := Tryd.isAgg21
  z21 := Tryd.sizeOf21
  v21 := Tryd.zeroValue21
  t46 := Tryd.underlying78
  a46 := Tryd.isAgg78
  z46 := Tryd.sizeOf78
  v46 := Tryd.zeroValue78
  t49 := Tryd.underlying92
  a49 := Tryd.isAgg92
  z49 := Tryd.sizeOf92
  v49 := Tryd.zeroValue92
  t51 := Tryd.underlying75
  a51 := Tryd.isAgg75
  z51 := Tryd.sizeOf75
  v51 := Tryd.zeroValue75
  t141 := Tryd.underlying77
  a141 := Tryd.isAgg77
  z141 := Tryd.sizeOf77
  v141 := Tryd.zeroValue77
  t193 := Tryd.underlying88
  a193 := Tryd.isAgg88
  z193 := Tryd.sizeOf88
  v193 := Tryd.zeroValue88
  t194 := Tryd.underlying89
  a194 := Tryd.isAgg89
  z194 := Tryd.sizeOf89
  v194 := Tryd.zeroValue89
  t196 := Tryd.underlying91
  a196 := Tryd.isAgg91
  z196 := Tryd.sizeOf91
  v196 := Tryd.zeroValue91
  t198 := Tryd.underlying94
  a198 := Tryd.isAgg94
  z198 := Tryd.sizeOf94
  v198 := Tryd.zeroValue94
  t201 := Tryd.underlying97
  a201 := Tryd.isAgg97
  z201 := Tryd.sizeOf97
  v201 := Tryd.zeroValue97
  t226 := Tryd.underlying99
  a226 := Tryd.isAgg99
  z226 := Tryd.sizeOf99
  v226 := Tryd.zeroValue99
  t227 := Tryd.underlying100
  a227 := Tryd.isAgg100
  z227 := Tryd.sizeOf100
  v227 := Tryd.zeroValue100
  g6 := by kernel_rfl }
end Go.Proofs
