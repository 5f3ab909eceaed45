import Derived.Test.Qxb6609089aDoorChecked
import Derived.WalkKit
import Derived.WalkSpells
import Derived.WalkLawsBesides
import Derived.Handy
import Derived.Laws.CopyOwn
set_option linter.unusedSimpArgs false
set_option linter.unusedVariables false
namespace Go.Proofs.Qxb6609089aDoor
open Go Go.RowKit

set_option maxHeartbeats 400000 in
theorem zzb_yes (p : Option Addr) (n c : Nat) (st en k : Int) (eof : Bool) (w : World) (hn : n ≤ 1048576) :
    Calls Tryd.prog 11 #[.slice p n c, .int .i64 st, .int .i64 en, .int .i64 k, .bool eof] w fun e w' => e = .returned (.bool true) ∧ w' = w := by
  have h1 : ¬ ((n : Int) > 1048576) := by omega
  go_enter Tryd.func11, Tryd.ntmps11
  go_wp2
  go_ret
  exact ⟨rfl, rfl⟩

set_option maxHeartbeats 400000 in
theorem zzb_no (p : Option Addr) (n c : Nat) (st en k : Int) (eof : Bool) (w : World) (hn : 1048576 < n) :
    Calls Tryd.prog 11 #[.slice p n c, .int .i64 st, .int .i64 en, .int .i64 k, .bool eof] w fun e w' => e = .returned (.bool false) ∧ w' = w := by
  have h1 : ((n : Int) > 1048576) := by omega
  go_enter Tryd.func11, Tryd.ntmps11
  go_wp2
  go_ret
  exact ⟨rfl, rfl⟩

end Go.Proofs.Qxb6609089aDoor
