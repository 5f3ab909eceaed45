import Derived.Test.Qxb6614395aFmtW21
set_option linter.unusedSimpArgs false
set_option linter.unusedVariables false
namespace Go.Proofs.Qxb6614395aFmt
open Go Go.RowKit Go.Deep Go.Extern.Stop Go.Stop Go.Extern
attribute [local go_sem] str_size str_get str_extract str_toList str_append

/-- Discard(3), three bytes being in the buffer. -/
def DcPost (g : Nat) (bE : Addr) (T : List UInt8) (w : World) (e : Ending) (w' : World) : Prop :=
  e = .returned (.tuple #[.int .i64 3, .nilIface]) ∧ Only (own g) w w' ∧ Src g (tripA bE) (adv (0, false) (T.take 3)) (T.drop 3) 3 w'

set_option maxHeartbeats 1600000 in
set_option maxRecDepth 20000 in
theorem discard_calls (g : Nat) (bE : Addr) (T bf un : List UInt8) (e0 : Value) (w0 w : World) (hpk : PkI g bE T bf un e0 w0 w) (h3 : 3 ≤ bf.length) :
    Calls Tryf.prog 46 #[.pointer (some ⟨g + 2, 0, none⟩), .int .i64 3] w (DcPost g bE T w) := by
  obtain ⟨hT, hfit, hbuf, ho, hrun, he⟩ := hpk
  obtain ⟨L, hL⟩ : ∃ L, bf.length = L := ⟨_, rfl⟩
  have hb1 := hbuf.last (-1) (-1)
  obtain ⟨B, lb, ls, hB4, hrw, hBr, hB, hb2⟩ := hbuf
  rw [Nat.zero_add, hL] at hb2 hrw
  have f5 := hb2.frozen 5
  have f6 := hb2.frozen 6
  have c5 := hb2.cell (i := 5) rfl
  have c6 := hb2.cell (i := 6) rfl
  have c2 := hb2.cell (i := 2) rfl
  have f2 := hb2.frozen 2
  have hW : Only (fun k => k = g + 2) w ((w.setCell ⟨g + 2, 5, none⟩ (.int .i64 (-1))).setCell ⟨g + 2, 6, none⟩ (.int .i64 (-1))) := ((Only.refl (fun k => k = g + 2) _).setCell (.inl rfl) _).setCell (.inl rfl) _
  have hb3 : SAt (g + 2) 117 (brC g 0 (0 + L) e0 (-1) (-1)) ((w.setCell ⟨g + 2, 5, none⟩ (.int .i64 (-1))).setCell ⟨g + 2, 6, none⟩ (.int .i64 (-1))) := by
    rw [Nat.zero_add]; exact (hb2.set 5 _).set' 6 _ (by simp [brC])
  have cB := buffered_calls g 0 L e0 (-1) (-1) _ (by omega) hb3
  have hl3 : (3 : Int) ≤ (L : Int) := by omega
  have hnz : ((L : Int) == 0) = false := by rw [beq_eq_false_iff_ne]; omega
  have HB1 := hid_of hb1
  have HW := hid_of hW
  have HT := hid_of hT
  have HFIT := hid_of hfit
  have HRUN := hid_of hrun
  have HE := hid_of he
  have HL := hid_of hL
  clear hb1 hB hb2 hBr hW hb3 hT hfit hrun he ho hL
  go_enter Tryf.func46, Tryf.ntmps46
  go_wp2_with fail
  go_loopg [6, 7] 1 (fun f v6 v7 wr => v6 = .int .i64 3 ∧ wr = (w.setCell ⟨g + 2, 5, none⟩ (.int .i64 (-1))).setCell ⟨g + 2, 6, none⟩ (.int .i64 (-1)))
  case atStart => exact ⟨rfl, rfl⟩
  case round =>
    obtain ⟨rfl, hw⟩ := hrel
    subst hw
    have hO : Only (own g) w ((w.setCell ⟨g + 2, 5, none⟩ (.int .i64 (-1))).setCell ⟨g + 2, 6, none⟩ (.int .i64 (-1))) := HW.out.mono (fun k _ h => by unfold own; omega)
    have hru : RunS g (adv (0, false) bf) un ((w.setCell ⟨g + 2, 5, none⟩ (.int .i64 (-1))).setCell ⟨g + 2, 6, none⟩ (.int .i64 (-1))) := HRUN.out.only (S := fun k => k = g + 2) HW.out (by omega) (by omega)
    have hu : ∀ kq, Under g (tripA bE) (adv (0, false) bf) un e0 (((w.setCell ⟨g + 2, 5, none⟩ (.int .i64 (-1))).setCell ⟨g + 2, 6, none⟩ (.int .i64 (-1))).drewN kq) := fun kq => .inl ⟨hru, HE.out⟩
    have htk : T.take 3 = bf.take 3 := by rw [HT.out, List.take_append_of_le_length h3]
    have hsa := fun kq => src_adv (w := ((w.setCell ⟨g + 2, 5, none⟩ (.int .i64 (-1))).setCell ⟨g + 2, 6, none⟩ (.int .i64 (-1))).drewN kq) (by simp) HT.out HFIT.out HB1.out (hu kq) 3 h3 (y := 3) (by omega)
    have HO := hid_of hO
    have HSA := hid_of hsa
    have HTK := hid_of htk
    clear hO hru hu hsa htk
    by_cases hgt : 3 < L
    · have hgt' : (3 : Int) < (L : Int) := by omega
      go_wp2_with (go_at_call 67; go_fit cB; rintro e w2 ⟨rfl, kq, rfl⟩)
      go_ret2
      refine ⟨rfl, ?_, ?_⟩
      · exact (HO.out.drewN _).setCell (.inl (by unfold own; simp only []; omega)) _
      · rw [HTK.out]; exact HSA.out _
    · have hl3' : L = 3 := by have := HL.out; omega
      subst hl3'
      go_wp2_with (go_at_call 67; go_fit cB; rintro e w2 ⟨rfl, kq, rfl⟩)
      go_ret2
      refine ⟨rfl, ?_, ?_⟩
      · exact (HO.out.drewN _).setCell (.inl (by unfold own; simp only []; omega)) _
      · rw [HTK.out]; exact HSA.out _
end Go.Proofs.Qxb6614395aFmt
