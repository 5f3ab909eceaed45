/-
  DERIVED: THE SHELF's CONTRACTS AT THIS DUMP, IN PLAIN WORDS (tools/lay-plain.mjs out of 'Qxb6614395aFmtSh2.lean', which tools/lay-shelf.mjs wrote): THE SAME DECLARATIONS UNDER THE SAME NAMES: 'import', 'namespace', 'open', 'def', 'theorem' AND NOTHING ELSE: no command of the shelf's: FOR A HAND-IN. Each laying: the table of numbers ('.._ren') and one theorem, a field a fact of the dump's own or the kernel's comparison; each contract: ONE APPLICATION.
-/
import Derived.Shelf.Spec.DecodeRune
import Derived.Ground.Names7Prog
import Derived.Test.Qxb6614395aFmtProg
namespace Go.Proofs
open Go.Shelf
def Tryf.lays732_ren : Go.Shelf.Ren := ⟨fun | 32 => 72 | 49 => 79 | n => n, fun | 30 => 36 | 21 => 21 | 3 => 3 | 0 => 0 | 5 => 5 | 4 => 4 | 33 => 122 | 66 => 145 | 25 => 114 | 69 => 148 | 68 => 147 | n => n, fun | 2 => 11 | 3 => 12 | n => n⟩
theorem Tryf.lays732 : Go.Proofs.Lays7.n32 Tryf.prog Tryf.lays732_ren := {
  mixed := by kernel_rfl
  f32 := Tryf.func72.trans (congrArg some (by kernel_rfl))
  f49 := Tryf.func79.trans (congrArg some (by kernel_rfl))
  t0 := Tryf.underlying0
  a0 := Tryf.isAgg0
  z0 := Tryf.sizeOf0
  v0 := Tryf.zeroValue0
  i0 := by kernel_rfl
  t3 := Tryf.underlying3
  a3 := Tryf.isAgg3
  z3 := Tryf.sizeOf3
  v3 := Tryf.zeroValue3
  i3 := by kernel_rfl
  t4 := Tryf.underlying4
  a4 := Tryf.isAgg4
  z4 := Tryf.sizeOf4
  v4 := Tryf.zeroValue4
  i4 := by kernel_rfl
  t5 := Tryf.underlying5
  a5 := Tryf.isAgg5
  z5 := Tryf.sizeOf5
  v5 := Tryf.zeroValue5
  i5 := by kernel_rfl
  t21 := Tryf.underlying21
  a21 := Tryf.isAgg21
  z21 := Tryf.sizeOf21
  v21 := Tryf.zeroValue21
  i21 := by kernel_rfl
  t25 := Tryf.underlying114
  a25 := Tryf.isAgg114
  z25 := Tryf.sizeOf114
  v25 := Tryf.zeroValue114
  i25 := by kernel_rfl
  t30 := Tryf.underlying36
  a30 := Tryf.isAgg36
  z30 := Tryf.sizeOf36
  v30 := Tryf.zeroValue36
  i30 := by kernel_rfl
  t33 := Tryf.underlying122
  a33 := Tryf.isAgg122
  z33 := Tryf.sizeOf122
  v33 := Tryf.zeroValue122
  i33 := by kernel_rfl
  t66 := Tryf.underlying145
  a66 := Tryf.isAgg145
  z66 := Tryf.sizeOf145
  t68 := Tryf.underlying147
  a68 := Tryf.isAgg147
  z68 := Tryf.sizeOf147
  v68 := Tryf.zeroValue147
  i68 := by kernel_rfl
  t69 := Tryf.underlying148
  a69 := Tryf.isAgg148
  z69 := Tryf.sizeOf148
  v69 := Tryf.zeroValue148
  i69 := by kernel_rfl
  g2 := by kernel_rfl
  g3 := by kernel_rfl }
end Go.Proofs
