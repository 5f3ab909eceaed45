import Derived.Test.Qxb6614395aFmtW24
set_option linter.unusedSimpArgs false
set_option linter.unusedVariables false
namespace Go.Proofs.Qxb6614395aFmt
open Go Go.RowKit Go.Deep Go.Extern.Stop Go.Stop Go.Extern
attribute [local go_sem] str_size str_get str_extract str_toList str_append

set_option maxHeartbeats 800000 in
/-- FieldPos(0): the line on which the record begins. -/
theorem fp_calls (g : Nat) (c : CV) (bytes : List UInt8) (ixs t : List Value) (nl : Nat) (col : Int) (w : World) (hrows : Rows5 g c bytes ixs (.int .i64 nl :: .int .i64 col :: t) w) :
    Calls Tryf.prog 29 #[.pointer (some ⟨g + 4, 0, none⟩), .int .i64 0] w fun e w' => e = .returned (.tuple #[.int .i64 (nl : Int), .int .i64 col]) ∧ Quiet w w' := by
  obtain ⟨n, hpos⟩ := hrows.pos
  have hn : 1 ≤ n := by have := hpos.1; simp at this; omega
  obtain ⟨b, cap, hp, -, -⟩ := hpos.form hn
  have d13 := hrows.csv.cell (i := 13) rfl
  rw [hp] at d13 hpos
  have p0 := hpos.cellAt 0 (by omega)
  have p1 := hpos.cellAt 1 (by omega)
  simp only [List.getElem?_cons_zero, List.getElem?_cons_succ] at p0 p1
  have hn1 : (0 : Int) < (n : Int) := by omega
  clear hpos hrows hp
  go_enter Tryf.func29, Tryf.ntmps29
  go_wp2_with fail
  go_quiet (fail)
  go_wp2_with fail
  go_ret2
  exact ⟨rfl, (Quiet.refl w).drewN _⟩
end Go.Proofs.Qxb6614395aFmt
