import Derived.Test.Qxb6614395aFmtRows
import Derived.Test.Qxb6614395aFmtW29
import Derived.Stop.LaidTwo
import Derived.Stop.LaidErr
import Derived.SliceStrings
import Derived.Carry
import Derived.ProofKit
set_option linter.unusedSimpArgs false
set_option linter.unusedVariables false
namespace Go.Proofs.Qxb6614395aFmt
open Go Go.ChangeShapes Go.WideShapes Go.ChangeAt Go.RowKit

/-- The second of a list of laid variables struck out. -/
theorem laidMet_drop2 {P : Program} {x y : String × DataW Unit} {r : List (String × DataW Unit)} {w : World} (h : laidMet P (x :: y :: r) w) : laidMet P (x :: r) w := by
  obtain ⟨ps, ⟨g0, t0, cs0, f0, p0, q0, h1, h2, h3, h4, ⟨g1, t1, cs1, f1, p1, q1, k1, k2, k3, k4, k5, e1⟩, e0⟩, hnd, hrows⟩ := h
  subst e1
  subst e0
  refine ⟨_, ⟨g0, t0, cs0, f0, p0, q1, h1, h2, h3, h4, k5, rfl⟩, ?_, fun b off hm => hrows b off ?_⟩
  · refine hnd.sublist ?_
    exact List.Sublist.append (List.Sublist.refl _) (List.sublist_append_right _ _)
  · rcases List.mem_append.1 hm with h | h
    · exact List.mem_append_left _ h
    · exact List.mem_append_right _ (List.mem_append_right _ h)

theorem star : "*" ++ "errors.errorString" = "*errors.errorString" := by decide
theorem row99 (u : TypeId) (h : Tryf.prog.typeName? 3 u = some "*errors.errorString") : u = 99 :=
  typeName_ptr_named (nm := "errors.errorString") (by rw [star]; kernel_rfl) (by kernel_rfl) (by decide) u (by rw [star]; exact h)

theorem sent_of {W : World} (h : laidMet Tryf.prog Rows.fnReaderRowsMatchCommaLineModelRow.laid W) : ∃ bE bF, Sent W.heap.size bE bF W := by
  have h1 := laidMet_drop2 (laidMet_drop2 h.tail)
  obtain ⟨a0, a1, s0, s1, c0, c1, t0, t1, hv0, hv1, hc0, -, -, hc1, -, -, hne, hb0, hb1⟩ := laid_sentinels2 (g0 := 0) (g1 := 7) h1 (by kernel_rfl) (by kernel_rfl) (by kernel_rfl) (by kernel_rfl) Tryf.underlying32 row99 Tryf.underlying99 Tryf.underlying101 rfl rfl Tryf.underlying9 (by kernel_rfl) (by kernel_rfl)
  obtain ⟨a2, s2, hv2, -, -, -⟩ := laid_sentinel (g := 10) h.tail.tail (by kernel_rfl) (by kernel_rfl) Tryf.underlying32 row99 Tryf.underlying99 Tryf.underlying101 rfl rfl Tryf.underlying9 (by kernel_rfl) (by kernel_rfl)
  have e0 : W.cell? ⟨0, 0, none⟩ = some (.iface 99 (.pointer (some a0))) := by
    have := World.var?_cell (g := 0) (by kernel_rfl) hv0 0
    simpa using this
  have e1 : W.cell? ⟨7, 0, none⟩ = some (.iface 99 (.pointer (some a1))) := by
    have := World.var?_cell (g := 7) (by kernel_rfl) hv1 0
    simpa using this
  have e2 : W.cell? ⟨10, 0, none⟩ = some (.iface 99 (.pointer (some a2))) := by
    have := World.var?_cell (g := 10) (by kernel_rfl) hv2 0
    simpa using this
  have l2 := World.block_lt_of_cell? W _ e2
  have lt : ∀ {k : Nat} {o : Obj}, W.heap[k]? = some o → k < W.heap.size := fun h => (Array.getElem?_eq_some_iff.1 h).1
  exact ⟨a0, a1, e0, e1, hne, lt hb0, lt hb1, l2, ⟨_, _, hb0⟩, ⟨_, _, hb1⟩⟩

theorem below_of {W W' : World} (h : Only (fun _ => False) W W') : Below W.heap.size W W' := ⟨h.os, h.tape, h.output, h.size, fun k hk => h.block k hk (fun h => h)⟩

set_option maxRecDepth 100000
/-- The header, opened. -/
theorem harg_of {H : Type} {enc : TypeId × Value → H} {W : World} {base : Nat} {v : Value} {d : DataW H} {p : List MemPlace} (hv : Value.okWide Tryf.prog W .any base 22 v) (h : DataW.Trod enc Tryf.prog W 0 (fun _ => true) true 22 v d p) : ∃ xs, HArg W v xs := by
  obtain ⟨a0, len0, cap0, rfl⟩ := okWide_slice Tryf.underlying22 hv
  obtain ⟨fuel, hf⟩ := h
  rcases open_strings Tryf.underlying22 Tryf.underlying9 (by kernel_rfl) hf with ⟨hcs, -⟩ | ⟨a, len, cap, ss, hcs, -, hl, hm, hz, -, hcell, hsz⟩
  · simp [Value.cells] at hcs
    obtain ⟨rfl, rfl, rfl⟩ := hcs
    exact ⟨[], .inl ⟨rfl, rfl⟩⟩
  · simp [Value.cells] at hcs
    obtain ⟨rfl, rfl, rfl⟩ := hcs
    simp only [if_true] at hz
    obtain ⟨b, o, sp⟩ := a
    have hlen : ((ss.take len0).map fun s => s.data.toList).length = len0 := by rw [List.length_map, List.length_take]; omega
    refine ⟨(ss.take len0).map fun s => s.data.toList, .inr ⟨b, o, sp, cap0, by rw [hlen], ?_, ?_, by rw [hlen]; exact hl, by unfold maxLen at hm; omega, ?_⟩⟩
    · rw [hlen]
      rcases Nat.eq_zero_or_pos len0 with h0 | h0
      · exact .inl h0
      · right
        have := World.cell?_spot (hcell 0 (by omega))
        simpa [Addr.add] using this
    · intro i hi
      have hi' : i < len0 := by rw [hlen] at hi; exact hi
      have hsp : sp = none := by
        have := World.cell?_spot (hcell 0 (by omega))
        simpa [Addr.add] using this
      subst hsp
      have h1 := hcell i (by omega)
      have ea : (⟨b, o, none⟩ : Addr).add i = ⟨b, o + i, none⟩ := by unfold Addr.add; split <;> simp_all
      rw [ea] at h1
      rw [h1, List.getElem_map, List.getElem_take, List.getD_eq_getElem?_getD, List.getElem?_eq_getElem (by omega)]
      simp only [Option.getD_some]
      rw [← str_of]
    · intro x hx
      rw [List.mem_map] at hx
      obtain ⟨s, hs, rfl⟩ := hx
      have := hsz s (List.mem_of_mem_take hs)
      rw [Array.length_toList]
      unfold maxLen at this
      exact this
end Go.Proofs.Qxb6614395aFmt
