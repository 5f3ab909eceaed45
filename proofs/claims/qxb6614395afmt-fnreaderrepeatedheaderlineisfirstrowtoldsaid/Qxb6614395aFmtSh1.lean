/-
  DERIVED: THE SHELF's CONTRACTS AT THIS DUMP, IN PLAIN WORDS (tools/lay-plain.mjs out of 'Qxb6614395aFmtSh1.lean', which tools/lay-shelf.mjs wrote): THE SAME DECLARATIONS UNDER THE SAME NAMES: 'import', 'namespace', 'open', 'def', 'theorem' AND NOTHING ELSE: no command of the shelf's: FOR A HAND-IN. Each laying: the table of numbers ('.._ren') and one theorem, a field a fact of the dump's own or the kernel's comparison; each contract: ONE APPLICATION.
-/
import Derived.Shelf.Strings.OnBuilder
import Derived.Ground.NamesProg
import Derived.Test.Qxb6614395aFmtProg
namespace Go.Proofs
open Go.Shelf
def Tryf.lays156_ren : Go.Shelf.Ren := ⟨fun | 156 => 36 | 165 => 47 | 166 => 48 | 169 => 49 | 240 => 68 | 241 => 69 | 276 => 77 | 277 => 78 | n => n, fun | 31 => 22 | 9 => 9 | 3 => 3 | 4 => 4 | 0 => 0 | 20 => 20 | 72 => 95 | 76 => 48 | 70 => 93 | 37 => 36 | 75 => 32 | 127 => 120 | 164 => 131 | 5 => 5 | 80 => 98 | n => n, fun | n => n⟩
theorem Tryf.lays156 : Go.Proofs.Lays.n156 Tryf.prog Tryf.lays156_ren := {
  mixed := by kernel_rfl
  f156 := Tryf.func36.trans (congrArg some (by kernel_rfl))
  f165 := Tryf.func47.trans (congrArg some (by kernel_rfl))
  f166 := Tryf.func48.trans (congrArg some (by kernel_rfl))
  f169 := Tryf.func49.trans (congrArg some (by kernel_rfl))
  f240 := Tryf.func68.trans (congrArg some (by kernel_rfl))
  f241 := Tryf.func69.trans (congrArg some (by kernel_rfl))
  f276 := Tryf.func77.trans (congrArg some (by kernel_rfl))
  f277 := Tryf.func78.trans (congrArg some (by kernel_rfl))
  t0 := Tryf.underlying0
  a0 := Tryf.isAgg0
  z0 := Tryf.sizeOf0
  v0 := Tryf.zeroValue0
  t3 := Tryf.underlying3
  a3 := Tryf.isAgg3
  z3 := Tryf.sizeOf3
  v3 := Tryf.zeroValue3
  t4 := Tryf.underlying4
  a4 := Tryf.isAgg4
  z4 := Tryf.sizeOf4
  v4 := Tryf.zeroValue4
  t9 := Tryf.underlying9
  a9 := Tryf.isAgg9
  z9 := Tryf.sizeOf9
  v9 := Tryf.zeroValue9
  t20 := Tryf.underlying20
  a20 := Tryf.isAgg20
  z20 := Tryf.sizeOf20
  v20 := Tryf.zeroValue20
  t31 := Tryf.underlying22
  a31 := Tryf.isAgg22
  z31 := Tryf.sizeOf22
  v31 := Tryf.zeroValue22
  t37 := Tryf.underlying36
  a37 := Tryf.isAgg36
  z37 := Tryf.sizeOf36
  v37 := Tryf.zeroValue36
  t70 := Tryf.underlying93
  a70 := Tryf.isAgg93
  z70 := Tryf.sizeOf93
  v70 := Tryf.zeroValue93
  t72 := Tryf.underlying95
  a72 := Tryf.isAgg95
  z72 := Tryf.sizeOf95
  v72 := Tryf.zeroValue95
  t75 := Tryf.underlying32
  a75 := Tryf.isAgg32
  z75 := Tryf.sizeOf32
  v75 := Tryf.zeroValue32
  t76 := Tryf.underlying48
  a76 := Tryf.isAgg48
  z76 := Tryf.sizeOf48
  v76 := Tryf.zeroValue48
  t127 := Tryf.underlying120
  a127 := Tryf.isAgg120
  z127 := Tryf.sizeOf120
  v127 := Tryf.zeroValue120
  t164 := Tryf.underlying131
  a164 := Tryf.isAgg131
  z164 := Tryf.sizeOf131
  v164 := Tryf.zeroValue131 }
theorem Tryf.Builder_Extra_156 : Builder.Extra Tryf.prog Tryf.lays156_ren := {
  sizeBuilder := by kernel_rfl
  liesBuilder := by kernel_rfl
  t5 := by kernel_rfl
  a5 := fun _ => by kernel_rfl
  z5 := fun _ => by kernel_rfl
  v5 := fun _ => by kernel_rfl
  infoByte := by kernel_rfl
  cellsByte := by kernel_rfl
  sizeByte := by kernel_rfl
  neB5 := by decide }
theorem Tryf.strings_Join_none (a : Option Addr) (c : Nat) (sep : ByteArray) (w : World) :
    Calls Tryf.prog 36 #[.slice a 0 c, .string sep] w fun e w' => e = .returned (.string ⟨#[]⟩) ∧ w' = w := Any.strings_Join_none Tryf.lays156 Tryf.Builder_Extra_156 a c sep w
end Go.Proofs
