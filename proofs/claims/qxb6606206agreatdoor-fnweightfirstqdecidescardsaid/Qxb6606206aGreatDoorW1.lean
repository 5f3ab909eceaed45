import Derived.Test.Qxb6606206aGreatDoorChecked
import Derived.Test.Qxb6606206aGreatDoorL2
import Derived.Test.Qxb6606206aGreatDoorL3
import Derived.WalkKit
import Derived.WalkSpells
import Derived.WalkLawsBesides
import Derived.Handy
import Derived.BigQuiet
import Derived.Deep.QuietTactic
import Derived.Deep.LoopGhost
set_option linter.unusedSimpArgs false
set_option linter.unusedVariables false
namespace Go.Proofs.Qxb6606206aGreatDoor
open Go Go.RowKit

/-- A function of numbers alone: one value, whatever the world. -/
def Gives (f : FuncId) (args : Array Value) (v : Value) : Prop := ∀ w : World, Calls Tryz.prog f args w fun e w' => e = .returned v ∧ w' = w

theorem frombits_run (n : Int) (w : World) : (callFunc 81 #[.int .u64 n]).run Tryz.prog w = .ok (.value (.float .f64 n.toNat)) w := by
  rw [run_callFunc_extern Tryz.func81 (by kernel_rfl) (by kernel_rfl) (by kernel_rfl) (e := Extern.MathFloatBits.float64frombits) (by kernel_rfl)]
  rfl
attribute [local go_sem] frombits_run


set_option maxHeartbeats 400000 in
theorem lower_gives (c : Int) : Gives 90 #[.int .u8 c] (.int .u8 (lowI c)) := by
  intro w
  go_enter Tryz.func90, Tryz.ntmps90
  go_wp2
  go_ret
  exact ⟨rfl, rfl⟩
def nanN : Nat := 9221120237041090561
set_option maxHeartbeats 400000 in
theorem nan_gives : Gives 89 #[] (.float .f64 nanN) := by
  intro w
  go_enter Tryz.func89, Tryz.ntmps89
  go_wp2
  go_ret
  exact ⟨rfl, rfl⟩
def infN (n : Int) : Nat := if n ≥ 0 then 9218868437227405312 else 18442240474082181120
set_option maxHeartbeats 400000 in
theorem inf_gives (n : Int) : Gives 88 #[.int .i64 n] (.float .f64 (infN n)) := by
  intro w
  unfold infN
  by_cases h : n ≥ 0
  · rw [if_pos h]
    go_enter Tryz.func88, Tryz.ntmps88
    go_wp2
    go_ret
    exact ⟨rfl, rfl⟩
  · rw [if_neg h]
    go_enter Tryz.func88, Tryz.ntmps88
    go_wp2
    go_ret
    exact ⟨rfl, rfl⟩
set_option maxHeartbeats 400000 in
theorem unmin_gives (n : Int) : ∃ v, Gives 97 #[.int .u64 n] (.int .u64 v) := by
  refine ⟨?_, fun w => ?_⟩
  rotate_left
  go_enter Tryz.func97, Tryz.ntmps97
  go_wp2
  go_ret
  exact ⟨by simp; exact Eq.refl _, rfl⟩
set_option maxHeartbeats 400000 in
theorem round_gives (n : Int) : ∃ v, Gives 99 #[.int .u64 n] (.int .u64 v) := by
  refine ⟨?_, fun w => ?_⟩
  rotate_left
  go_enter Tryz.func99, Tryz.ntmps99
  go_wp2
  go_ret
  exact ⟨by simp; exact Eq.refl _, rfl⟩
set_option maxHeartbeats 400000 in
theorem log2_gives (n : Int) (h : -10000 ≤ n) (h' : n ≤ 10000) : ∃ v, v = n * 108853 / 32768 ∧ Gives 93 #[.int .i64 n] (.int .i64 v) := by
  refine ⟨_, rfl, fun w => ?_⟩
  go_enter Tryz.func93, Tryz.ntmps93
  go_wp2
  go_ret
  exact ⟨rfl, rfl⟩
set_option maxHeartbeats 400000 in
theorem bool2_gives (b : Bool) : Gives 80 #[.bool b] (.int .u64 (if b then 1 else 0)) := by
  intro w
  cases b
  all_goals
    go_enter Tryz.func80, Tryz.ntmps80
    go_wp2
    go_ret
    exact ⟨rfl, rfl⟩
set_option maxHeartbeats 400000 in
theorem bool2i_gives (b : Bool) : Gives 96 #[.bool b] (.int .i64 (if b then 1 else 0)) := by
  intro w
  cases b
  all_goals
    go_enter Tryz.func96, Tryz.ntmps96
    go_wp2
    go_ret
    exact ⟨rfl, rfl⟩

/-- An error or none, as the inner package says it. -/
def Err (v : Value) : Prop := v = .nilIface ∨ v = .iface 65 (.int .i64 1) ∨ v = .iface 65 (.int .i64 2)

end Go.Proofs.Qxb6606206aGreatDoor
