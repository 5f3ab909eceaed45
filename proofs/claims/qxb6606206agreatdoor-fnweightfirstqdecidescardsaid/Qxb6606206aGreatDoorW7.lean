import Derived.Test.Qxb6606206aGreatDoorW5
import Derived.Deep.OwnRows
set_option linter.unusedSimpArgs false
set_option linter.unusedVariables false
namespace Go.Proofs.Qxb6606206aGreatDoor
open Go Go.RowKit

/-- The cells of a decimal. -/
def cellsD (s : Dc) : Nat → Value := fun i => if i < 800 then .int .u8 (s.d i) else if i = 800 then .int .i64 s.nd else if i = 801 then .int .i64 s.dp else if i = 802 then .bool s.neg else .bool s.tr
/-- A decimal lies in block g. -/
def DAt (w : World) (g : Nat) (s : Dc) : Prop := w.rowIs g 110 804 (cellsD s)
namespace DAt
variable {w : World} {g : Nat} {s : Dc}
theorem lt (h : DAt w g s) : g < w.heap.size := World.rowIs.lt h
theorem dig (h : DAt w g s) {i : Nat} (hi : i < 800) : w.cell? ⟨g, i, none⟩ = some (.int .u8 (s.d i)) := by
  have := World.rowIs.cell h (i := i) (by omega)
  rw [this]; simp [cellsD, hi]
theorem nd (h : DAt w g s) : w.cell? ⟨g, 800, none⟩ = some (.int .i64 s.nd) := World.rowIs.cell h (i := 800) (by omega)
theorem dp (h : DAt w g s) : w.cell? ⟨g, 801, none⟩ = some (.int .i64 s.dp) := World.rowIs.cell h (i := 801) (by omega)
theorem neg (h : DAt w g s) : w.cell? ⟨g, 802, none⟩ = some (.bool s.neg) := World.rowIs.cell h (i := 802) (by omega)
theorem tr (h : DAt w g s) : w.cell? ⟨g, 803, none⟩ = some (.bool s.tr) := World.rowIs.cell h (i := 803) (by omega)
theorem frozen (h : DAt w g s) (i : Nat) : w.frozen? ⟨g, i, none⟩ = false := World.rowIs.frozen h i
theorem setDig (h : DAt w g s) {i : Nat} (hi : i < 800) (v : Nat) {x : Int} (hx : x = v) : DAt (w.setCell ⟨g, i, none⟩ (.int .u8 x)) g (s.put i v) := by
  subst hx
  refine World.rowIs.congr (World.rowIs.set h i _) fun j hj => ?_
  simp only [cellsD, Dc.put]
  by_cases e : j = i
  · subst e; simp [hi]
  · simp [e]
theorem setNd (h : DAt w g s) (v : Nat) {x : Int} (hx : x = v) : DAt (w.setCell ⟨g, 800, none⟩ (.int .i64 x)) g { s with nd := v } := by
  subst hx
  refine World.rowIs.congr (World.rowIs.set h 800 _) fun j hj => ?_
  simp only [cellsD]
  by_cases e : j = 800
  · subst e; simp
  · simp [e]
theorem setDp (h : DAt w g s) (v : Int) : DAt (w.setCell ⟨g, 801, none⟩ (.int .i64 v)) g { s with dp := v } := by
  refine World.rowIs.congr (World.rowIs.set h 801 _) fun j hj => ?_
  simp only [cellsD]
  by_cases e : j = 801
  · subst e; simp
  · simp [e]
theorem setNeg (h : DAt w g s) (v : Bool) : DAt (w.setCell ⟨g, 802, none⟩ (.bool v)) g { s with neg := v } := by
  refine World.rowIs.congr (World.rowIs.set h 802 _) fun j hj => ?_
  simp only [cellsD]
  by_cases e : j = 802
  · subst e; simp
  · simp [e]
theorem setTr (h : DAt w g s) (v : Bool) : DAt (w.setCell ⟨g, 803, none⟩ (.bool v)) g { s with tr := v } := by
  refine World.rowIs.congr (World.rowIs.set h 803 _) fun j hj => ?_
  simp only [cellsD]
  by_cases e : j = 803
  · subst e; simp
  · simp only [e, if_false]
    have : ¬ (j = 803) := e
    split
    · rfl
    · split
      · rfl
      · split
        · rfl
        · split
          · rfl
          · exfalso; omega
theorem drewN (h : DAt w g s) (n : Nat) : DAt (w.drewN n) g s := h
theorem drew (h : DAt w g s) : DAt w.drew g s := h
end DAt

/-- How many digits, read off the world. -/
def ndOf (g : Nat) (w : World) : Nat := match w.cell? ⟨g, 800, none⟩ with | some (.int .i64 n) => n.toNat | _ => 0
theorem ndOf_eq {w : World} {g : Nat} {s : Dc} (h : DAt w g s) : ndOf g w = s.nd := by
  unfold ndOf; rw [h.nd]; simp
/-- What a method of the decimal leaves: the decimal, and all older blocks as they were. -/
def DPost (B g : Nat) (w : World) (s : Dc) (e : Ending) (w' : World) : Prop := e = .returned (.tuple #[]) ∧ DAt w' g s ∧ Below B w w'

set_option maxHeartbeats 3200000 in
theorem trim_calls (g B : Nat) (hB : B ≤ g) (s : Dc) (hs : s.nd ≤ 800) (w : World) (h : DAt w g s) : Calls Tryz.prog 113 #[.pointer (some ⟨g, 0, none⟩)] w (DPost B g w s.trim) := by
  obtain ⟨R, hR⟩ : ∃ R, s.trim = R := ⟨_, rfl⟩
  have HR := hid_of hR
  rw [hR]
  clear hR
  have H := hid_of h
  clear h
  go_enter Tryz.func113, Tryz.ntmps113
  go_wp2_with fail
  go_loopw [] (fun wr => ∃ (s' : Dc), DAt wr g s' ∧ Below B w wr ∧ s'.nd ≤ 800 ∧ Hid (s'.trim = R)) (fun wr => ndOf g wr)
  case atStart => exact ⟨s, H.out, Below.refl _ _, hs, HR⟩
  case round =>
    obtain ⟨s', hD0, hb, hs', hq⟩ := hrel
    have hD := hid_of hD0
    have c0 := hD0.nd
    have c1 := hD0.dp
    have f0 := hD0.frozen 800
    have f1 := hD0.frozen 801
    cases hn : s'.nd with
    | zero =>
      have hz : Hid (s'.trim = { s' with nd := 0, dp := 0 }) := by
        show _ = _
        unfold Dc.trim
        rw [hn]; rfl
      have hDz : Hid (DAt wr g { s' with nd := 0 }) := by
        have e : ({ s' with nd := 0 } : Dc) = s' := by cases s'; simp only at hn; rw [hn]
        show DAt _ _ _
        rw [e]; exact hD0
      rw [hn] at c0
      clear hD0 hn
      go_wp2_with fail
      go_quiet (fail)
      go_wp2_with fail
      go_end0
      refine ⟨rfl, ?_, ?_⟩
      · rw [← hq.out, hz.out]
        exact hDz.out.setDp 0
      · exact below_drewN (hb.setCell hB _) _
    | succ n =>
      rw [hn] at hs' c0
      have cd := hD0.dig (i := n) (by omega)
      have hgt : (0 : Int) < ((n + 1 : Nat) : Int) := by omega
      by_cases h48 : s'.d n = 48
      · have hz : Hid (({ s' with nd := n } : Dc).trim = s'.trim) := by
          show _ = _
          unfold Dc.trim
          rw [hn]
          simp only [Dc.tl, h48, if_true]
        rw [h48] at cd
        clear hD0
        go_wp2_with fail
        go_quiet (fail)
        go_wp2_with fail
        refine ⟨⟨{ s' with nd := n }, ?_, ?_, by simp only []; omega, ?_⟩, ?_⟩
        · exact hD.out.setNd n (by omega)
        · exact below_drewN (hb.setCell hB _) _
        · show _ = _
          rw [← hq.out, hz.out]
        · rw [ndOf_eq (DAt.setNd (hD.out.drewN _) n rfl), ndOf_eq hD.out, hn]
          simp
      · have hz : Hid (s'.trim = s') := by
          show _ = _
          unfold Dc.trim
          rw [hn]
          simp only [Dc.tl, h48, if_false]
          cases s'
          simp_all
        have h48' : ((s'.d n : Int) == 48) = false := by rw [beq_eq_false_iff_ne]; omega
        have hne : (((n + 1 : Nat) : Int) == 0) = false := by rw [beq_eq_false_iff_ne]; omega
        clear hD0
        go_wp2_with fail
        go_quiet (fail)
        go_wp2_with fail
        go_end0
        refine ⟨rfl, ?_, ?_⟩
        · rw [← hq.out, hz.out]
          exact hD.out
        · exact below_drewN hb _
end Go.Proofs.Qxb6606206aGreatDoor
