import Derived.Test.Qxb6609089aDoorW2
set_option linter.unusedSimpArgs false
set_option linter.unusedVariables false
namespace Go.Proofs.Qxb6609089aDoor
open Go Go.RowKit

/-- A Reader's four cells that Ready reads. -/
structure RdAt (w : World) (rb : Nat) (kept : Value) (st en : Int) (er : Value) : Prop where
  c1 : w.cell? ⟨rb, 1, none⟩ = some kept
  c2 : w.cell? ⟨rb, 2, none⟩ = some (.int .i64 st)
  c3 : w.cell? ⟨rb, 3, none⟩ = some (.int .i64 en)
  c4 : w.cell? ⟨rb, 4, none⟩ = some er

theorem rdAt_new (w : World) (o : Obj) (x0 kept x5 : Value) (st en : Int) (er : Value) :
    RdAt ((w.alloc o).alloc (.cells ((((((Tryd.zeroCells52.setIfInBounds 0 x0).setIfInBounds 1 kept).setIfInBounds 2 (.int .i64 st)).setIfInBounds 3 (.int .i64 en)).setIfInBounds 4 er).setIfInBounds 5 x5) 52)) (w.heap.size + 1) kept st en er := by
  have hz := Tryd.zeroCells52_size
  constructor <;> rw [World.cell?_alloc_at _ _ _ _ (by simp)] <;> simp [hz]

set_option maxRecDepth 100000 in
set_option maxHeartbeats 400000 in
theorem newAt_false (p : Option Addr) (n c : Nat) (st en : Int) (w : World) :
    Calls Tryd.prog 13 #[.slice p n c, .int .i64 st, .int .i64 en, .bool false, .int .i64 0, .slice none 0 0] w fun e w' =>
      ∃ rb, e = .returned (.pointer (some ⟨rb, 0, none⟩)) ∧ w.heap.size ≤ rb ∧ rb < w'.heap.size ∧ RdAt w' rb (.slice p n c) st en .nilIface ∧ Below w.heap.size w w' := by
  go_enter Tryd.func13, Tryd.ntmps13
  go_wp2
  go_ret
  exact ⟨w.heap.size + 1, rfl, by omega, by simp, rdAt_new w _ _ _ _ _ _ _, ((Below.refl _ w).alloc (Nat.le_refl _) _).alloc (by simp) _⟩

set_option maxRecDepth 100000 in
set_option maxHeartbeats 400000 in
theorem newAt_true (p : Option Addr) (n c : Nat) (st en : Int) (t : TypeId) (x : Value) (w : World) (hE : w.cell? ⟨0, 0, none⟩ = some (.iface t x)) :
    Calls Tryd.prog 13 #[.slice p n c, .int .i64 st, .int .i64 en, .bool true, .int .i64 0, .slice none 0 0] w fun e w' =>
      ∃ rb, e = .returned (.pointer (some ⟨rb, 0, none⟩)) ∧ w.heap.size ≤ rb ∧ rb < w'.heap.size ∧ RdAt w' rb (.slice p n c) st en (.iface t x) ∧ Below w.heap.size w w' := by
  go_enter Tryd.func13, Tryd.ntmps13
  go_wp2
  go_ret
  exact ⟨w.heap.size + 1, rfl, by omega, by simp, rdAt_new w _ _ _ _ _ _ _, ((Below.refl _ w).alloc (Nat.le_refl _) _).alloc (by simp) _⟩

end Go.Proofs.Qxb6609089aDoor
