import Derived.Test.Qxb6614395aFmtW6
set_option linter.unusedSimpArgs false
set_option linter.unusedVariables false
namespace Go.Proofs.Qxb6614395aFmt
open Go Go.RowKit Go.Deep Go.Extern.Stop Go.Stop Go.Extern
attribute [local go_sem] str_size str_get str_extract str_toList str_append

set_option maxHeartbeats 400000 in
theorem readErr_calls (g r wv : Nat) (E : Value) (lb ls : Int) (w : World) (h : SAt (g + 2) 117 (brC g r wv E lb ls) w) :
    Calls Tryf.prog 66 #[.pointer (some ⟨g + 2, 0, none⟩)] w fun e w' => e = .returned E ∧ w' = w.setCell ⟨g + 2, 4, none⟩ .nilIface := by
  have c4 := h.cell (i := 4) rfl
  have f4 := h.frozen 4
  clear h
  go_enter Tryf.func66, Tryf.ntmps66
  go_wp2
  go_ret
  exact ⟨rfl, rfl⟩

set_option maxHeartbeats 400000 in
theorem buffered_calls (g r n : Nat) (E : Value) (lb ls : Int) (w : World) (hr : r + n ≤ 4096) (h : SAt (g + 2) 117 (brC g r (r + n) E lb ls) w) :
    Calls Tryf.prog 67 #[.pointer (some ⟨g + 2, 0, none⟩)] w fun e w' => e = .returned (.int .i64 (n : Int)) ∧ Quiet w w' := by
  have c2 := h.cell (i := 2) rfl
  have c3 := h.cell (i := 3) rfl
  clear h
  go_enter Tryf.func67, Tryf.ntmps67
  go_wp2_with fail
  go_quiet (fail)
  go_wp2_with fail
  go_ret
  refine ⟨?_, (Quiet.refl w).drewN _⟩
  show Ending.returned (Value.int _ _) = _
  congr 2
  omega
end Go.Proofs.Qxb6614395aFmt
