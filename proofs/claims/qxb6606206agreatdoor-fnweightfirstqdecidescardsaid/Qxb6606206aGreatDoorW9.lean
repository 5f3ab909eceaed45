import Derived.Test.Qxb6606206aGreatDoorW8
import GoSem.PinnedTables
set_option linter.unusedSimpArgs false
set_option linter.unusedVariables false
namespace Go.Proofs.Qxb6606206aGreatDoor
open Go Go.RowKit
attribute [local go_sem] str_size str_get

theorem DAt.below {w w' : World} {g : Nat} {s : Dc} {B : Nat} (h : DAt w g s) (hb : Below B w w') (hg : g < B) : DAt w' g s := World.rowIs.of_block h (hb.block g hg)

/-- A cutoff's digits. -/
def Cf (cut : List UInt8) : Nat → Nat := fun i => ((cut[i]?).getD 0).toNat
theorem Cf_eq {cut : List UInt8} {i : Nat} (h : i < cut.length) : Cf cut i = cut[i].toNat := by unfold Cf; rw [List.getElem?_eq_getElem h]; rfl

set_option maxHeartbeats 3200000 in
theorem pil_calls (g : Nat) (s : Dc) (hs : s.nd ≤ 800) (cut : List UInt8) (hc : cut.length ≤ 60) (w : World) (h : DAt w g s) :
    Calls Tryz.prog 112 #[.slice (some ⟨g, 0, none⟩) s.nd 800, .string (str cut)] w fun e w' => e = .returned (.bool (Dc.pil s.d s.nd (Cf cut) cut.length 100 0)) ∧ Below w.heap.size w w' := by
  obtain ⟨R, hR⟩ : ∃ R, Dc.pil s.d s.nd (Cf cut) cut.length 100 0 = R := ⟨_, rfl⟩
  have HR := hid_of hR
  rw [hR]
  clear hR
  have H := hid_of h
  have hglt := h.lt
  clear h
  go_enter Tryz.func112, Tryz.ntmps112
  go_wp2_with fail
  go_loopg [5] 100 (fun f vi wr => ∃ i : Nat, vi = .int .i64 i ∧ Below w.heap.size w wr ∧ i ≤ cut.length ∧ i ≤ s.nd ∧ f + i = 100 ∧ Hid (Dc.pil s.d s.nd (Cf cut) cut.length f i = R))
  case atStart => exact ⟨0, rfl, Below.refl _ _, by omega, by omega, by omega, HR⟩
  case round =>
    obtain ⟨i, rfl, hb, hi, hin, hf, hq⟩ := hrel
    obtain ⟨f, rfl⟩ : ∃ f, gk = f + 1 := ⟨gk - 1, by omega⟩
    have hbb := hid_of hb
    have hD := H.out.below hb hglt
    clear hb
    by_cases hlt : i < cut.length
    · by_cases hnd : i < s.nd
      · have cd := hD.dig (i := i) (by omega)
        have hC := Cf_eq hlt
        by_cases he : s.d i = cut[i].toNat
        · have hst : Hid (Dc.pil s.d s.nd (Cf cut) cut.length (f + 1) i = Dc.pil s.d s.nd (Cf cut) cut.length f (i + 1)) := by
            show _ = _
            rw [Dc.pil, if_pos hlt, if_neg (by omega), if_pos (by rw [hC, he])]
          rw [he] at cd
          clear hD hC
          go_wp2_with fail
          go_quiet (fail)
          go_wp2_with fail
          go_roundg f
          case measure => omega
          case rel =>
            refine ⟨i + 1, rfl, below_drewN hbb.out _, by omega, by omega, by omega, ?_⟩
            show _ = _
            rw [← hst.out]; exact hq.out
        · have hst : Hid (R = decide (s.d i < cut[i].toNat)) := by
            show _ = _
            rw [← hq.out, Dc.pil, if_pos hlt, if_neg (by omega), if_neg (by rw [hC]; exact he), hC]
          have hne : ((s.d i : Int) != (cut[i].toNat : Int)) = true := by rw [bne_iff_ne]; omega
          clear hD hC hq
          go_wp2_with fail
          go_quiet (fail)
          go_wp2_with fail
          go_quiet (fail)
          go_wp2_with fail
          go_ret
          refine ⟨?_, ?_⟩
          · rw [hst.out]; simp
          · exact below_drewN (below_drewN hbb.out _) _
      · have hst : Hid (R = true) := by
          show _ = _
          rw [← hq.out, Dc.pil, if_pos hlt, if_pos (by omega)]
        clear hD hq
        go_wp2_with fail
        go_ret
        rw [hst.out]
        exact ⟨rfl, hbb.out⟩
    · have hst : Hid (R = false) := by
        show _ = _
        rw [← hq.out, Dc.pil, if_neg hlt]
      clear hD hq
      go_wp2_with fail
      go_ret
      rw [hst.out]
      exact ⟨rfl, hbb.out⟩
end Go.Proofs.Qxb6606206aGreatDoor
