import Derived.Test.Qxb6614395aFmtW2
import Derived.Stop.CallBack
import Derived.Stop.IfaceNil
import GoSem.ClaimData
set_option linter.unusedSimpArgs false
set_option linter.unusedVariables false
namespace Go.Proofs.Qxb6614395aFmt
open Go Go.RowKit Go.Deep Go.Extern.Stop Go.Stop Go.Extern

theorem call40 (args : Array Value) (w : World) : (callFunc 40 args).run Tryf.prog w = ((FmtStop.errorf #[9, 86] #[32] args).run Tryf.prog w).andThen fun v w' => .ok (.value v) w' :=
  run_callFunc_extern Tryf.func40 (by kernel_rfl) (by kernel_rfl) (by kernel_rfl) (by kernel_rfl) args w
theorem fmtGuard (name : String) (w : World) : (FmtStop.guard name).run Tryf.prog w = .ok () w := by kernel_rfl
/-- "line %d: the row takes more than %d bytes, the most that a row may take" -/
def fmtRow : List UInt8 := [108, 105, 110, 101, 32, 37, 100, 58, 32, 116, 104, 101, 32, 114, 111, 119, 32, 116, 97, 107, 101, 115, 32, 109, 111, 114, 101, 32, 116, 104, 97, 110, 32, 37, 100, 32, 98, 121, 116, 101, 115, 44, 32, 116, 104, 101, 32, 109, 111, 115, 116, 32, 116, 104, 97, 116, 32, 97, 32, 114, 111, 119, 32, 109, 97, 121, 32, 116, 97, 107, 101]
theorem fmtRow_r (w : World) : (FmtDoors.printed ⟨fmtRow.toArray⟩ 2).run Tryf.prog w = .ok [(0, 100, false), (1, 100, false)] w := by kernel_rfl
theorem fmtRow_c : (fmtRow.toArray).contains 37 = true := by kernel_rfl
def shape3 : List UInt8 := [5, 3, 0, 0, 0, 0, 0, 0, 0, 105, 110, 116]
theorem op3_100w (name : String) (x : Int) (w : World) : (FmtStop.operand name true 100 false (.iface 3 (.int .i64 x))).run Tryf.prog w = .ok (shape3, Go.Extern.Stop.digits 8 (x % 2 ^ 64).toNat) w := by kernel_rfl
theorem ptr99 (w : World) : (FmtStop.ptrTo "errors.errorString").run Tryf.prog w = .ok 99 w := by kernel_rfl
theorem elem99 (w : World) : (elemOf 99).run Tryf.prog w = .ok 101 w := by kernel_rfl
attribute [local go_sem] call40 fmtGuard fmtRow_r fmtRow_c op3_100w ptr99 elem99

/-- A new error, its text open. -/
def ErrPost (w : World) (e : Ending) (w' : World) : Prop := e = .returned (.iface 99 (.pointer (some ⟨w.heap.size, 0, none⟩))) ∧ ∃ s k, w' = (w.alloc (.cells #[.string s] 101)).drewN k

set_option maxHeartbeats 400000 in
set_option maxRecDepth 20000 in
theorem errorf2_calls (F : Interp) (a c : Int) (blk : Nat) (w : World) (hF : F.answers w.tape)
    (hc0 : w.cell? ⟨blk, 0, none⟩ = some (.iface 3 (.int .i64 a))) (hc1 : w.cell? ⟨blk, 1, none⟩ = some (.iface 3 (.int .i64 c))) :
    Calls Tryf.prog 31 #[.string ⟨fmtRow.toArray⟩, .slice (some ⟨blk, 0, none⟩) 2 2] w (ErrPost w) := by
  have hF' := answers_open hF
  go_enter Tryf.func31, Tryf.ntmps31
  go_wp2
  go_ret
  exact ⟨rfl, _, 1, rfl⟩
end Go.Proofs.Qxb6614395aFmt
