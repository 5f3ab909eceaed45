import Derived.Test.Qxb6609089aDoorRows
import Derived.Test.Qxb6609089aDoorW24
import Derived.PinnedBridge
import Derived.Lib.LaidU8T
import Derived.Lib.LaidPrint
import Derived.Stop.LaidErr
set_option linter.unusedSimpArgs false
set_option linter.unusedVariables false
namespace Go.Proofs.Qxb6609089aDoor.Cn
open Go Go.RowKit Go.Lib Go.Shelf
set_option maxRecDepth 100000

def u8ren : Go.Shelf.Ren := ⟨fun n => n, fun | 5 => 5 | 119 => 81 | 138 => 83 | 139 => 84 | n => n, fun n => n⟩
theorem u8types : U8Types Tryd.prog u8ren := ⟨Tryd.underlying5, Tryd.underlying81, Tryd.underlying83, Tryd.underlying84⟩
theorem u8extra : U8Extra Tryd.prog u8ren := ⟨by kernel_rfl, by kernel_rfl, by kernel_rfl, by kernel_rfl, by kernel_rfl, by kernel_rfl, by kernel_rfl⟩
theorem accept_eq : (Rows.laid_unicode_utf8_acceptRanges : DataW Unit) = acceptData := by kernel_rfl
theorem first_eq : Rows.laid_unicode_utf8_first = firstData := Pinned.utf8First_eq
theorem p16_eq : Rows.laid_strconv_isPrint16 = sliceData .u16 goPrintTabs.p16 := Pinned.isPrint16_eq
theorem n16_eq : Rows.laid_strconv_isNotPrint16 = sliceData .u16 goPrintTabs.n16 := Pinned.isNotPrint16_eq
theorem p32_eq : Rows.laid_strconv_isPrint32 = sliceData .u32 goPrintTabs.p32 := Pinned.isPrint32_eq
theorem n32_eq : Rows.laid_strconv_isNotPrint32 = sliceData .u16 goPrintTabs.n32 := Pinned.isNotPrint32_eq
theorem pextra : PrintExtra Tryd.prog Tryd.lays177_ren := by
  constructor <;> kernel_rfl

theorem tSyn : (Tryd.prog.globals[1]?).map (·.type) = some 38 := by kernel_rfl
theorem gSyn : Tryd.prog.globalNamed "strconv.ErrSyntax" = some 1 := by kernel_rfl
theorem syn_of {W : World} {nm : String} {d : DataW Unit} (h : VarReads Tryd.prog W "strconv.ErrSyntax" (.iface nm d)) : ∃ t x, Syn W t x := by
  obtain ⟨g, t, cs, fuel, p, hg, hty, hvar, hd⟩ := h
  obtain rfl := Option.some.inj (gSyn.symm.trans hg)
  obtain rfl := Option.some.inj (tSyn.symm.trans hty)
  obtain ⟨f1, u, v, hcs, _⟩ := iface_of_trod Tryd.underlying38 hd
  refine ⟨u, v, ?_⟩
  have h0 := World.var?_cell gSyn hvar 0
  rw [← Array.getElem?_toList, hcs] at h0
  exact h0

/-- What the two rows' condition gives the walks. -/
theorem laid_canon {W : World} (h : laidMet Tryd.prog Rows.fnCanonicalEqualExactlyForSameValueRow.laid W) : ∃ t x, CT goPrintTabs t x W := by
  obtain ⟨t, x, hs⟩ := syn_of (laidMet.reads h (.tail _ (.head _)))
  refine ⟨t, x, hs, ?_, ?_⟩
  · exact utf8Tabs_of_readsT (ρ := u8ren) u8types u8extra (first_eq ▸ laidMet.reads h (.tail _ (.tail _ (.tail _ (.tail _ (.tail _ (.tail _ (.tail _ (.head _))))))))) (accept_eq ▸ laidMet.reads h (.head _))
  · exact printTabs_of_reads (ρ := Tryd.lays177_ren) { Tryd.lays177 with } pextra
      (p16_eq ▸ laidMet.reads h (.tail _ (.tail _ (.tail _ (.tail _ (.tail _ (.head _)))))))
      (n16_eq ▸ laidMet.reads h (.tail _ (.tail _ (.tail _ (.head _)))))
      (p32_eq ▸ laidMet.reads h (.tail _ (.tail _ (.tail _ (.tail _ (.tail _ (.tail _ (.head _))))))))
      (n32_eq ▸ laidMet.reads h (.tail _ (.tail _ (.tail _ (.tail _ (.head _))))))

end Go.Proofs.Qxb6609089aDoor.Cn
