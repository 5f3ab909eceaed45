/-
  The library contracts that this seat's walks use, laid at this program (by the guide's own tools, in plain words).
-/
import Derived.Shelf.Small.Strs
import Derived.Shelf.Strings.Trim
import Derived.Test.Qxb6614133aDoorProg
namespace Go.Proofs
open Go.Shelf
def Tryd.lays137_ren : Go.Shelf.Ren := ⟨fun | 137 => 19 | 217 => 29 | 266 => 32 | n => n, fun | 9 => 9 | 5 => 5 | 3 => 3 | n => n, fun | n => n⟩
theorem Tryd.lays137 : Go.Proofs.Lays.n137 Tryd.prog Tryd.lays137_ren := {
  mixed := by kernel_rfl
  f137 := Tryd.func19.trans (congrArg some (by kernel_rfl))
  f217 := Tryd.func29.trans (congrArg some (by kernel_rfl))
  f266 := Tryd.func32.trans (congrArg some (by kernel_rfl))
  t3 := Tryd.underlying3
  a3 := Tryd.isAgg3
  z3 := Tryd.sizeOf3
  v3 := Tryd.zeroValue3
  t5 := Tryd.underlying5
  a5 := Tryd.isAgg5
  z5 := Tryd.sizeOf5
  v5 := Tryd.zeroValue5
  t9 := Tryd.underlying9
  a9 := Tryd.isAgg9
  z9 := Tryd.sizeOf9
  v9 := Tryd.zeroValue9 }
open Go.RowKit in
theorem Tryd.strings_IndexByte (s : ByteArray) (c : Int) (w : World) :
    Calls Tryd.prog 19 #[.string s, .int .u8 c] w fun e w' => e = .returned (.int .i64 (Lib.indexByte s.data.toList c.toNat.toUInt8)) ∧ w' = w := Any.strings_IndexByte Tryd.lays137 s c w
def Tryd.lays161_ren : Go.Shelf.Ren := ⟨fun | 161 => 8 | 231 => 11 | 227 => 12 | 233 => 13 | 235 => 14 | 228 => 26 | 197 => 27 | 151 => 28 | 260 => 30 | 152 => 31 | 137 => 19 | 119 => 33 | 224 => 34 | 225 => 35 | 217 => 29 | 266 => 32 | n => n, fun | 9 => 9 | 4 => 4 | 3 => 3 | 5 => 5 | 117 => 41 | 116 => 40 | 0 => 0 | 124 => 44 | 105 => 47 | 21 => 21 | 119 => 51 | 46 => 52 | 139 => 55 | 138 => 54 | n => n, fun | 3 => 0 | 4 => 1 | n => n⟩
theorem Tryd.lays161 : Go.Proofs.Lays.n161 Tryd.prog Tryd.lays161_ren := {
  mixed := by kernel_rfl
  f119 := Tryd.func33.trans (congrArg some (by kernel_rfl))
  f137 := Tryd.func19.trans (congrArg some (by kernel_rfl))
  f151 := Tryd.func28.trans (congrArg some (by kernel_rfl))
  f152 := Tryd.func31.trans (congrArg some (by kernel_rfl))
  f161 := Tryd.func8.trans (congrArg some (by kernel_rfl))
  f197 := Tryd.func27.trans (congrArg some (by kernel_rfl))
  f217 := Tryd.func29.trans (congrArg some (by kernel_rfl))
  f224 := Tryd.func34.trans (congrArg some (by kernel_rfl))
  f225 := Tryd.func35.trans (congrArg some (by kernel_rfl))
  f227 := Tryd.func12.trans (congrArg some (by kernel_rfl))
  f228 := Tryd.func26.trans (congrArg some (by kernel_rfl))
  f231 := Tryd.func11.trans (congrArg some (by kernel_rfl))
  f233 := Tryd.func13.trans (congrArg some (by kernel_rfl))
  f235 := Tryd.func14.trans (congrArg some (by kernel_rfl))
  f260 := Tryd.func30.trans (congrArg some (by kernel_rfl))
  f266 := Tryd.func32.trans (congrArg some (by kernel_rfl))
  t0 := Tryd.underlying0
  a0 := Tryd.isAgg0
  z0 := Tryd.sizeOf0
  v0 := Tryd.zeroValue0
  t3 := Tryd.underlying3
  a3 := Tryd.isAgg3
  z3 := Tryd.sizeOf3
  v3 := Tryd.zeroValue3
  t4 := Tryd.underlying4
  a4 := Tryd.isAgg4
  z4 := Tryd.sizeOf4
  v4 := Tryd.zeroValue4
  t5 := Tryd.underlying5
  a5 := Tryd.isAgg5
  z5 := Tryd.sizeOf5
  v5 := Tryd.zeroValue5
  t9 := Tryd.underlying9
  a9 := Tryd.isAgg9
  z9 := Tryd.sizeOf9
  v9 := Tryd.zeroValue9
  t21 := Tryd.underlying21
  a21 := Tryd.isAgg21
  z21 := Tryd.sizeOf21
  v21 := Tryd.zeroValue21
  t46 := Tryd.underlying52
  a46 := Tryd.isAgg52
  z46 := Tryd.sizeOf52
  v46 := Tryd.zeroValue52
  t105 := Tryd.underlying47
  a105 := Tryd.isAgg47
  z105 := Tryd.sizeOf47
  v105 := Tryd.zeroValue47
  t116 := Tryd.underlying40
  a116 := Tryd.isAgg40
  z116 := Tryd.sizeOf40
  t117 := Tryd.underlying41
  a117 := Tryd.isAgg41
  z117 := Tryd.sizeOf41
  v117 := Tryd.zeroValue41
  t119 := Tryd.underlying51
  a119 := Tryd.isAgg51
  z119 := Tryd.sizeOf51
  t124 := Tryd.underlying44
  a124 := Tryd.isAgg44
  z124 := Tryd.sizeOf44
  v124 := Tryd.zeroValue44
  t138 := Tryd.underlying54
  a138 := Tryd.isAgg54
  z138 := Tryd.sizeOf54
  v138 := Tryd.zeroValue54
  t139 := Tryd.underlying55
  a139 := Tryd.isAgg55
  z139 := Tryd.sizeOf55
  v139 := Tryd.zeroValue55
  g3 := by kernel_rfl
  g4 := by kernel_rfl }
open Go.RowKit in
theorem Tryd.strings_TrimLeft_one (s : ByteArray) (c : UInt8) (hc : c.toNat < 128) (w : World) :
    Calls Tryd.prog 8 #[.string s, .string ⟨#[c]⟩] w fun e w' => e = .returned (.string ⟨(Lib.trimLeftB s.data.toList c).toArray⟩) ∧ w' = w := Any.strings_TrimLeft_one Tryd.lays161 s c hc w
end Go.Proofs
