import Derived.Test.Qxb6614395aFmtT1
import Derived.Test.Qxb6614395aFmtF3
import Derived.PinnedBridge
import Derived.Lib.LaidU8T
set_option linter.unusedSimpArgs false
set_option linter.unusedVariables false
namespace Go.Proofs.Qxb6614395aFmt
open Go Go.RowKit Go.Lib Go.Shelf Go.Extern.Stop Go.Stop Go.Extern
set_option maxRecDepth 100000

def u8ren : Go.Shelf.Ren := ⟨fun n => n, fun | 5 => 5 | 119 => 145 | 138 => 147 | 139 => 148 | n => n, fun | 3 => 11 | 4 => 12 | n => n⟩
theorem u8types : U8Types Tryf.prog u8ren := ⟨Tryf.underlying5, Tryf.underlying145, Tryf.underlying147, Tryf.underlying148⟩
theorem u8extra : U8Extra Tryf.prog u8ren := ⟨by kernel_rfl, by kernel_rfl, by kernel_rfl, by kernel_rfl, by kernel_rfl, by kernel_rfl, by kernel_rfl⟩
theorem accept_eq : (Rows.laid_unicode_utf8_acceptRanges : DataW Unit) = acceptData := by kernel_rfl
theorem first_eq : Rows.laid_unicode_utf8_first = firstData := Pinned.utf8First_eq

theorem iface_at {W : World} {name nm : String} {d : DataW Unit} {g : Nat} (hg : Tryf.prog.globalNamed name = some g) (ht : (Tryf.prog.globals[g]?).map (·.type) = some 32) (h : VarReads Tryf.prog W name (.iface nm d)) : ∃ t x, W.cell? ⟨g, 0, none⟩ = some (.iface t x) := by
  obtain ⟨g', t, cs, fuel, p, hg', hty, hvar, hd⟩ := h
  obtain rfl := Option.some.inj (hg.symm.trans hg')
  obtain rfl := Option.some.inj (ht.symm.trans hty)
  obtain ⟨f1, u, v, hcs, _⟩ := iface_of_trod Tryf.underlying32 hd
  refine ⟨u, v, ?_⟩
  have h0 := World.var?_cell hg hvar 0
  rw [← Array.getElem?_toList, hcs] at h0
  exact h0

/-- What the row's condition gives the walk. -/
theorem env_of {F : Interp} {W : World} (hF : F.answers W.tape) (h : laidMet Tryf.prog Rows.fnReaderRepeatedHeaderLineIsFirstRowRow.laid W) : ∃ bE bF, EnvW F W.heap.size bE bF W := by
  obtain ⟨bE, bF, hS⟩ := sent_of h
  have hT : Lib.Utf8Tabs 11 12 W := utf8Tabs_of_readsT (ρ := u8ren) u8types u8extra (first_eq ▸ laidMet.reads h (.tail _ (.tail _ (.tail _ (.tail _ (.tail _ (.tail _ (.tail _ (.tail _ (.tail _ (.tail _ (.tail _ (.head _))))))))))))) (accept_eq ▸ laidMet.reads h (.head _))
  have h12 := World.block_lt_of_cell? W _ (hT.2 0 (by decide)).1
  exact ⟨bE, bF, hF, hS, h12, hT, iface_at (by kernel_rfl) (by kernel_rfl) (laidMet.reads h (.tail _ (.tail _ (.tail _ (.tail _ (.tail _ (.tail _ (.tail _ (.head _))))))))), iface_at (by kernel_rfl) (by kernel_rfl) (laidMet.reads h (.tail _ (.tail _ (.tail _ (.tail _ (.tail _ (.tail _ (.tail _ (.tail _ (.head _))))))))))⟩
end Go.Proofs.Qxb6614395aFmt
