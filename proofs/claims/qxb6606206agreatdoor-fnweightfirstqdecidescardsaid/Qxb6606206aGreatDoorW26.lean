import Derived.Test.Qxb6606206aGreatDoorW23
import Derived.Test.Qxb6606206aGreatDoorW25
set_option linter.unusedSimpArgs false
set_option linter.unusedVariables false
namespace Go.Proofs.Qxb6606206aGreatDoor
open Go Go.RowKit
attribute [local go_sem] str_size str_get str_extract str_toList str_append

/-- All that weight reads. -/
structure WT (w : World) : Prop where
  pt : PT w
  af : AF w
  ml : ∃ m, w.cell? ⟨3, 0, none⟩ = some (.int .i64 m)
theorem WT.below {w w' : World} (h : WT w) (hb : Below w.heap.size w w') : WT w' := by
  obtain ⟨h1, h2, m, h3⟩ := h
  exact ⟨h1.below hb, h2.below hb, m, (hb.cell (p := ⟨3, 0, none⟩) (World.block_lt_of_cell? w _ h3)).trans h3⟩

theorem info116 : (Tryz.prog.info? (Tryz.lays160_ren.t 116)).map (fun i => (i.zero, i.size)) = some (some (.agg (Array.replicate 256 (.bool false))), 256) := by kernel_rfl
theorem info9 : (Tryz.prog.info? (Tryz.lays146_ren.t 9)).map (fun i => (i.zero, i.size, i.bytes)) = some (some (.string ByteArray.empty), 1, 16) := by kernel_rfl

set_option maxHeartbeats 1600000 in
set_option maxRecDepth 20000 in
theorem trim_sp (x : List UInt8) (hx : x.length ≤ 1000000000) (w : World) : Calls Tryz.prog 22 #[.string (str x)] w fun e w' => e = .returned (.string (str (Lib.trimS x [32, 9]))) ∧ Below w.heap.size w w' := by
  have c : Calls Tryz.prog 30 #[.string (str x), .string (str [32, 9])] w fun e w' => e = .returned (.string (str (Lib.trimS x [32, 9]))) ∧ Below w.heap.size w w' :=
    Any.strings_Trim_laid Tryz.lays160 info116 (str x) (str [32, 9]) w (by rw [str_size]; omega) (by rw [str_size]; decide) (fun j b hb => by
      have : (str [32, 9]).data.toList = [32, 9] := rfl
      rw [this] at hb
      match j, hb with
      | 0, hb => cases hb; decide
      | 1, hb => cases hb; decide)
  go_enter Tryz.func22, Tryz.ntmps22
  go_wp2_with (go_at_call 30; go_fit c; rintro e w' ⟨rfl, hb⟩)
  go_ret
  exact ⟨rfl, hb⟩

theorem cut_calls (x : List UInt8) (hx : x.length ≤ 1000000000) (w : World) (hW : WT w) : Calls Tryz.prog 20 #[.string (str x), .string (str [61])] w fun e w' => e = .returned (.tuple #[.string (str (Lib.cut x [61]).1), .string (str (Lib.cut x [61]).2.1), .bool (Lib.cut x [61]).2.2]) ∧ Below w.heap.size w w' := by
  obtain ⟨m, hm⟩ := hW.ml
  exact (Any.strings_Cut Tryz.lays145 (str x) (str [61]) m w (by rw [str_size]; omega) hm).mono fun e w' ⟨h1, n, h2⟩ => ⟨h1, by rw [h2]; exact below_drewN (Below.refl _ _) _⟩

theorem split_calls (l : List UInt8) (hl : l.length ≤ 1000000000) (w : World) (hW : WT w) : Calls Tryz.prog 19 #[.string (str l), .string (str [59])] w fun e w' =>
    e = .returned (.slice (some ⟨w.heap.size, 0, none⟩) (segs l).length (segs l).length) ∧ w' = w.alloc (.cells ((segs l).map fun p => Value.string (str p)).toArray 9) := by
  obtain ⟨m, hm⟩ := hW.ml
  refine (Any.strings_Split Tryz.lays146 info9 (str l) (str [59]) m w (by rw [str_size]; omega) hm (by decide)).mono fun e w' ⟨h1, h2⟩ => ?_
  have hc : Lib.countB (str l) (str [59]) = l.count 59 := Lib.count_one 59 l
  rw [split_segs, List.map_map] at h2
  rw [hc, ← segs_length] at h1
  exact ⟨h1, h2⟩

theorem segs_len : ∀ (l p : List UInt8), p ∈ segs l → p.length ≤ l.length
  | [], p, h => by simp [segs] at h; simp [h]
  | c :: t, p, h => by
    unfold segs at h
    split at h
    · rcases List.mem_cons.1 h with rfl | h
      · simp
      · have := segs_len t p h; simp; omega
    · cases hs : segs t with
      | nil => exact absurd hs (segs_ne t)
      | cons a r =>
        rw [hs] at h
        rcases List.mem_cons.1 h with rfl | h
        · have := segs_len t a (by rw [hs]; simp)
          simp; omega
        · have := segs_len t p (by rw [hs]; exact List.mem_cons_of_mem _ h)
          simp; omega
theorem cut_len (p : List UInt8) : (Lib.cut p [61]).1.length ≤ p.length ∧ (Lib.cut p [61]).2.1.length ≤ p.length := by
  unfold Lib.cut
  split
  · exact ⟨by rw [List.length_take]; omega, by rw [List.length_drop]; omega⟩
  · exact ⟨Nat.le_refl _, by simp⟩
theorem trim_len (x cs : List UInt8) : (Lib.trimS x cs).length ≤ x.length := by
  unfold Lib.trimS Lib.trimLeftS Lib.trimRightS
  have h1 := (List.dropWhile_sublist (cs.contains ·) (l := ((x.reverse.dropWhile (cs.contains ·)).reverse))).length_le
  have h2 := (List.dropWhile_sublist (cs.contains ·) (l := x.reverse)).length_le
  rw [List.length_reverse] at h1 h2
  omega

/-- What ParseFloat gives, chosen. -/
noncomputable def pfF (l : List UInt8) : Nat := open Classical in if h : l.length ≤ 1000000000 then Classical.choose (pf_gives l h) else 0
noncomputable def pfB (l : List UInt8) : Bool := open Classical in if h : l.length ≤ 1000000000 then Classical.choose (Classical.choose_spec (pf_gives l h)) else false
theorem pfF_gives (l : List UInt8) (h : l.length ≤ 1000000000) : PF l (pfF l) (pfB l) := by
  unfold pfF pfB
  rw [dif_pos h, dif_pos h]
  exact Classical.choose_spec (Classical.choose_spec (pf_gives l h))
def ge0 (f : Nat) : Bool := FloatKind.f64.format.order f 0 == some .gt || FloatKind.f64.format.order f 0 == some .eq
def le1 (f : Nat) : Bool := FloatKind.f64.format.order f 4607182418800017408 == some .lt || FloatKind.f64.format.order f 4607182418800017408 == some .eq
/-- A q value's weight. -/
noncomputable def num (v : List UInt8) : Nat := if pfB v then 0 else if ge0 (pfF v) && le1 (pfF v) then pfF v else 0

def WP (w : World) (f : Nat) (e : Ending) (w' : World) : Prop := e = .returned (.float .f64 f) ∧ Below w.heap.size w w'
end Go.Proofs.Qxb6606206aGreatDoor
