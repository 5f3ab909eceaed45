import Derived.Test.Qxb6609089aDoorRows
import Derived.Test.Qxb6609089aDoorW10
import Derived.PinnedBridge
import Derived.Lib.LaidU8T
import Derived.Stop.LaidErr
set_option linter.unusedSimpArgs false
set_option linter.unusedVariables false
namespace Go.Proofs.Qxb6609089aDoor
open Go Go.RowKit Go.Lib Go.Shelf
set_option maxRecDepth 100000

def u8ren : Go.Shelf.Ren := ⟨fun n => n, fun | 5 => 5 | 119 => 81 | 138 => 83 | 139 => 84 | n => n, fun n => n⟩
theorem u8types : U8Types Tryd.prog u8ren := ⟨Tryd.underlying5, Tryd.underlying81, Tryd.underlying83, Tryd.underlying84⟩
theorem u8extra : U8Extra Tryd.prog u8ren := ⟨by kernel_rfl, by kernel_rfl, by kernel_rfl, by kernel_rfl, by kernel_rfl, by kernel_rfl, by kernel_rfl⟩
theorem accept_eq : (Rows.laid_unicode_utf8_acceptRanges : DataW Unit) = acceptData := by kernel_rfl
theorem white_eq : (Rows.laid_unicode_White_Space : DataW Unit) = whiteData := by kernel_rfl
theorem first_eq : Rows.laid_unicode_utf8_first = firstData := Pinned.utf8First_eq
theorem wextra : WhiteExtra Tryd.prog Tryd.lays199_ren := ⟨by kernel_rfl, by kernel_rfl, by kernel_rfl, by kernel_rfl, by kernel_rfl, by kernel_rfl, by kernel_rfl, by kernel_rfl⟩

theorem tEof : (Tryd.prog.globals[0]?).map (·.type) = some 38 := by kernel_rfl
theorem gEof : Tryd.prog.globalNamed "io.EOF" = some 0 := by kernel_rfl
theorem eof_of {W : World} {nm : String} {d : DataW Unit} (h : VarReads Tryd.prog W "io.EOF" (.iface nm d)) : ∃ t x, Eof W t x := by
  obtain ⟨g, t, cs, fuel, p, hg, hty, hvar, hd⟩ := h
  obtain rfl := Option.some.inj (gEof.symm.trans hg)
  obtain rfl := Option.some.inj (tEof.symm.trans hty)
  obtain ⟨f1, u, v, hcs, _⟩ := iface_of_trod Tryd.underlying38 hd
  refine ⟨u, v, ?_⟩
  have h0 := World.var?_cell gEof hvar 0
  rw [← Array.getElem?_toList, hcs] at h0
  exact h0

/-- What the row's condition gives the walks. -/
theorem laid_ready {W : World} (h : laidMet Tryd.prog Rows.fnReadyAtALineBoundaryRow.laid W) : Tabs W ∧ ∃ t x, Eof W t x :=
  ⟨⟨utf8Tabs_of_readsT (ρ := u8ren) u8types u8extra (first_eq ▸ laidMet.reads h (.tail _ (.tail _ (.tail _ (.head _))))) (accept_eq ▸ laidMet.reads h (.head _)),
    whiteTab_of_reads (ρ := Tryd.lays199_ren) Tryd.lays199 wextra (white_eq ▸ laidMet.reads h (.tail _ (.tail _ (.head _))))⟩,
   eof_of (laidMet.reads h (.tail _ (.head _)))⟩

end Go.Proofs.Qxb6609089aDoor
