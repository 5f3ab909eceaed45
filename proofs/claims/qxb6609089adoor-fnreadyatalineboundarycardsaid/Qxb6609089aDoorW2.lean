import Derived.Test.Qxb6609089aDoorW1
set_option linter.unusedSimpArgs false
set_option linter.unusedVariables false
namespace Go.Proofs.Qxb6609089aDoor
open Go Go.RowKit

theorem Tryd.info5 : (Tryd.prog.info? 5).map (fun i => (i.zero, i.size, i.bytes)) = some (some (.int .u8 0), 1, 1) := by kernel_rfl
theorem Tryd.size5 : (Tryd.prog.info? 5).map (·.size) = some 1 := by kernel_rfl

set_option maxHeartbeats 400000 in
theorem clone_nil (n c : Nat) (w : World) :
    Calls Tryd.prog 12 #[.slice none n c] w fun e w' => e = .returned (.slice none 0 0) ∧ w' = w := by
  have q30 := fun (w : World) (a : Option Addr) (n c n' c' : Nat) => Lib.run_eql_slice_nil (P := Tryd.prog) w 30 5 a n c n' c' Tryd.underlying30
  go_enter Tryd.func12, Tryd.ntmps12
  go_wp2
  go_ret
  exact ⟨rfl, rfl⟩

set_option maxRecDepth 100000 in
set_option maxHeartbeats 400000 in
theorem clone_some (a : Addr) (n c : Nat) (xs : List Int) (w : World) (hn : n ≤ 1048576) (hx : xs.length = n)
    (hc : ∀ i, i < n → w.cell? (a.add i) = some (.int .u8 (xs.getD i 0))) :
    Calls Tryd.prog 12 #[.slice (some a) n c] w fun e w' => e = .returned (.slice (some ⟨w.heap.size, 0, none⟩) n n) ∧ Below w.heap.size w w' ∧ w.heap.size < w'.heap.size ∧
      ∀ i, i < n → w'.cell? ⟨w.heap.size, i, none⟩ = some (.int .u8 (xs.getD i 0)) := by
  have q30 := fun (w : World) (a : Option Addr) (n c n' c' : Nat) => Lib.run_eql_slice_nil (P := Tryd.prog) w 30 5 a n c n' c' Tryd.underlying30
  obtain ⟨i5, hi, hz0, hz1, hz2⟩ := info_parts Tryd.info5
  have hmk : ∀ w, (Instr.makeSlice 30 (.int .i64 n) (.int .i64 n)).run Tryd.prog w = .ok (.slice (some ⟨w.heap.size, 0, none⟩) n n) (w.alloc (.cells (madeCells #[.int .u8 0] n) 5)) := fun w => by
    have := run_make (P := Tryd.prog) w 30 5 i5 _ Tryd.underlying30 hi hz0 .i64 .i64 n n (by omega) (by omega) (by rw [hz2]; omega) (by omega)
    rw [this, hz1]; simp [Value.cells]
  clear hi hz0 hz1 hz2
  have hcp : ∃ w2, (Builtin.copy_ #[30, 30] 3 #[.slice (some ⟨w.heap.size, 0, none⟩) n n, .slice (some a) n c]).run Tryd.prog (w.alloc (.cells (madeCells #[.int .u8 0] n) 5)) = .ok (goInt n) w2 ∧
      Below w.heap.size w w2 ∧ w.heap.size < w2.heap.size ∧ ∀ i, i < n → w2.cell? ⟨w.heap.size, i, none⟩ = some (.int .u8 (xs.getD i 0)) := by
    have hg : (w.alloc (.cells (madeCells #[.int .u8 0] n) 5)).heap[w.heap.size]? = some (.cells (madeCells #[.int .u8 0] n) 5 (0, 0)) := heap_alloc_new w _
    have h := run_copy_row (P := Tryd.prog) (w.alloc (.cells (madeCells #[.int .u8 0] n) 5)) 30 30 3 5 w.heap.size 0 n n a n c (madeCells #[.int .u8 0] n) 5 (xs.map (Value.int .u8)) Tryd.underlying30 Tryd.size5 hg
      (by rw [List.length_map, hx]; exact (Nat.min_self n).symm)
      (fun j v hv => by
        rw [List.getElem?_map] at hv
        obtain ⟨x, hx', rfl⟩ := Option.map_eq_some_iff.1 hv
        have hj : j < n := by rw [← hx]; exact (List.getElem?_eq_some_iff.1 hx').1
        have := hc j hj
        rw [List.getD_eq_getElem?_getD, hx'] at this
        exact Lib.cell?_alloc_some _ this)
      (by rw [List.length_map, hx, size_madeCells]; omega) (fun v hv => by obtain ⟨x, _, rfl⟩ := List.mem_map.1 hv; rfl)
    refine ⟨_, by rw [List.length_map, hx] at h; exact h, below_setRow ((Below.refl _ w).alloc (Nat.le_refl _) _) (Nat.le_refl _) _, (by rw [show ∀ (X : World) g cs, (X.setRow g cs).heap.size = X.heap.size from fun X g cs => by simp [World.setRow]]; simp), fun i hi => ?_⟩
    rw [cell_setRow_same _ _ _ _ _ _ _ hg]
    have hix : i < xs.length := by omega
    simp [List.getElem?_append, hix]
  obtain ⟨w2, hrun, hb2, hs2, hcell2⟩ := hcp
  have H2 : Hid (∀ i, i < n → w2.cell? ⟨w.heap.size, i, none⟩ = some (.int .u8 (xs.getD i 0))) := hcell2; clear hcell2 hc
  go_enter Tryd.func12, Tryd.ntmps12
  go_wp2
  go_ret
  exact ⟨rfl, hb2, hs2, H2.out⟩

end Go.Proofs.Qxb6609089aDoor
