import Derived.Test.Qxb6609089aDoorChecked
import Derived.Test.Qxb6609089aDoorL2
import Derived.Test.Qxb6609089aDoorSh2
import Derived.WalkKit
import Derived.WalkSpells
import Derived.WalkLawsBesides
import Derived.Handy
import Derived.BigQuiet
import Derived.Deep.QuietTactic
import Derived.Deep.LoopGhost
set_option linter.unusedSimpArgs false
set_option linter.unusedVariables false
namespace Go.Proofs.Qxb6609089aDoor
open Go Go.RowKit

attribute [local go_sem] str_size str_get str_extract str_toList str_append

set_option maxHeartbeats 400000 in
set_option maxRecDepth 100000 in
theorem index_calls (s : ByteArray) (c : Int) (w : World) :
    Calls Tryd.prog 27 #[.string s, .int .u8 c] w fun e w' => e = .returned (.int .i64 (Lib.indexByte s.data.toList c.toNat.toUInt8)) ∧ w' = w := by
  go_enter Tryd.func27, Tryd.ntmps27
  go_wp2
  rw [run_callFunc_extern Tryd.func38 (by kernel_rfl) (by kernel_rfl) (by kernel_rfl) (e := Extern.BytealgIndexByte.indexByte) (by kernel_rfl), Lib.run_indexByteString]
  simp only [Result.andThen]
  rw [Oper.upon_value]
  go_wp2
  go_ret
  exact ⟨rfl, rfl⟩

set_option maxHeartbeats 400000 in
theorem contains_calls (s : ByteArray) (c : Int) (w : World) :
    Calls Tryd.prog 28 #[.string s, .int .u8 c] w fun e w' => e = .returned (.bool (Lib.indexByte s.data.toList c.toNat.toUInt8 != -1)) ∧ w' = w := by
  go_enter Tryd.func28, Tryd.ntmps28
  go_wp2_with (go_at_call 27; go_fit (index_calls _ _ _); rintro e w' ⟨rfl, rfl⟩)
  go_ret
  exact ⟨rfl, rfl⟩

set_option maxHeartbeats 400000 in
theorem unhex_calls (c : UInt8) (w : World) :
    Calls Tryd.prog 41 #[.int .u8 c.toNat] w fun e w' => e = .returned (.tuple #[.int .i32 ((Uq.unhex c).getD 0), .bool (Uq.unhex c).isSome]) ∧ w' = w := by
  have hc := UInt8.toNat_lt c
  go_enter Tryd.func41, Tryd.ntmps41
  go_wp2
  all_goals (go_ret2; refine ⟨?_, rfl⟩; unfold Uq.unhex; (repeat' split) <;> first | rfl | (exfalso; omega) | skip)

set_option maxHeartbeats 400000 in
theorem zz6_yes (k : Int) (b : Bool) (i : Int) (s : ByteArray) (w : World) (hn : s.size ≤ 1048576) :
    Calls Tryd.prog 6 #[.int .u8 k, .bool b, .int .i64 i, .string s] w fun e w' => e = .returned (.bool true) ∧ w' = w := by
  have h1 : ¬ ((s.size : Int) > 1048576) := by omega
  go_enter Tryd.func6, Tryd.ntmps6
  go_wp2
  go_ret
  exact ⟨rfl, rfl⟩
set_option maxHeartbeats 400000 in
theorem zz6_no (k : Int) (b : Bool) (i : Int) (s : ByteArray) (w : World) (hn : 1048576 < s.size) :
    Calls Tryd.prog 6 #[.int .u8 k, .bool b, .int .i64 i, .string s] w fun e w' => e = .returned (.bool false) ∧ w' = w := by
  have h1 : ((s.size : Int) > 1048576) := by omega
  go_enter Tryd.func6, Tryd.ntmps6
  go_wp2
  go_ret
  exact ⟨rfl, rfl⟩
set_option maxHeartbeats 400000 in
theorem zz10_calls (k1 : Int) (b1 : Bool) (i1 : Int) (s1 : ByteArray) (k2 : Int) (b2 : Bool) (i2 : Int) (s2 : ByteArray) (w : World) (hs1 : s1.size ≤ 9223372036854775807) (hs2 : s2.size ≤ 9223372036854775807) :
    Calls Tryd.prog 10 #[.int .u8 k1, .bool b1, .int .i64 i1, .string s1, .int .u8 k2, .bool b2, .int .i64 i2, .string s2] w fun e w' => ∃ b, e = .returned (.bool b) ∧ w' = w ∧ (b = true → s1.size ≤ 1048576 ∧ s2.size ≤ 1048576) := by
  go_enter Tryd.func10, Tryd.ntmps10
  go_wp2
  all_goals (go_ret; first | exact ⟨false, rfl, rfl, by simp⟩ | exact ⟨true, rfl, rfl, by omega⟩)

end Go.Proofs.Qxb6609089aDoor
