import Derived.Test.Qxb6606206aGreatDoorW29
import Derived.Laws.FloatArith
set_option linter.unusedSimpArgs false
set_option linter.unusedVariables false
namespace Go.Proofs.Qxb6606206aGreatDoor
open Go Go.RowKit
attribute [local go_sem] str_size str_get str_extract str_toList str_append

/-- A float that is no NaN. -/
def Good (x : Nat) : Prop := (∃ s m p, Ieee.double.read x = .number s m p) ∨ (∃ s, Ieee.double.read x = .infinity s)
theorem good_of_order {x y : Nat} (h : ∃ o, FloatKind.f64.format.order x y = some o) : Good x := by
  obtain ⟨o, h⟩ := h
  change (Ieee.double.read x).order (Ieee.double.read y) = some o at h
  unfold Good
  cases hx : Ieee.double.read x with
  | nan => rw [hx] at h; cases hy : Ieee.double.read y <;> rw [hy] at h <;> cases h
  | infinity s => exact .inr ⟨s, rfl⟩
  | number s m p => exact .inl ⟨s, m, p, rfl⟩
theorem good_ge0 {x : Nat} (h : ge0 x = true) : Good x := by
  unfold ge0 at h
  refine good_of_order (y := 0) ?_
  cases ho : FloatKind.f64.format.order x 0 with
  | none => rw [ho] at h; exact absurd h (by decide)
  | some o => exact ⟨o, rfl⟩
theorem good_0 : Good 0 := good_of_order (y := 0) ⟨.eq, by decide +kernel⟩
theorem good_1 : Good 4607182418800017408 := good_of_order (y := 0) ⟨.gt, by decide +kernel⟩
theorem good_num (v : List UInt8) : Good (num v) := by
  unfold num
  split
  · exact good_0
  · split
    · rename_i h
      rw [Bool.and_eq_true] at h
      exact good_ge0 h.1
    · exact good_0
theorem good_wt : ∀ s, Good (wt num s)
  | [] => good_1
  | p :: t => by
    unfold wt
    split
    · exact good_num _
    · exact good_wt t
theorem good_self {x : Nat} (h : Good x) : FloatKind.f64.format.order x x = some .eq := by
  show (Ieee.double.read x).order (Ieee.double.read x) = some .eq
  rcases h with ⟨s, m, p, h⟩ | ⟨s, h⟩
  · rw [h]; simp [Ieee.Datum.order]
  · rw [h]; simp [Ieee.Datum.order]
theorem good_inv {x : Nat} (h : Good x) : ∃ r, floatBits .quo .f64 4607182418800017408 x = some r := by
  show ∃ r, Ieee.double.div 4607182418800017408 x = some r
  unfold Ieee.Format.div
  have h1 : ∃ s m p, Ieee.double.read 4607182418800017408 = .number s m p ∧ m ≠ 0 := ⟨false, _, _, rfl, by decide +kernel⟩
  obtain ⟨s1, m1, p1, h1, hm⟩ := h1
  rw [h1]
  rcases h with ⟨s, m, p, h⟩ | ⟨s, h⟩
  · rw [h]
    simp only [Ieee.Datum.quotient, hm, if_false]
    split <;> exact ⟨_, rfl⟩
  · rw [h]; exact ⟨_, rfl⟩

set_option maxHeartbeats 1600000 in
theorem same_calls {x : Nat} (hx : Good x) (w : World) : Calls Tryz.prog 9 #[.float .f64 x, .float .f64 x] w (hqPost w true) := by
  have hself := good_self hx
  have hne : (FloatKind.f64.format.order x x == some .eq) = true := by rw [hself]; rfl
  obtain ⟨r, hr⟩ := good_inv hx
  have hrun := fun (t : TypeId) (w : World) => run_float_arith (P := Tryz.prog) (w := w) .quo t .f64 _ _ r hr
  cases h0 : (FloatKind.f64.format.order x 0 == some .eq) with
  | true =>
    go_enter Tryz.func9, Tryz.ntmps9
    go_wp2
    go_ret
    exact ⟨rfl, rfl⟩
  | false =>
    go_enter Tryz.func9, Tryz.ntmps9
    go_wp2
    go_ret
    exact ⟨rfl, rfl⟩

set_option maxHeartbeats 1600000 in
theorem zzw_calls (l : List UInt8) (hl : l.length ≤ 100000000) (w : World) (hW : WT w) : Calls Tryz.prog 7 #[.string (str l)] w (WP w (wt num (segs l))) := by
  have c := weight_calls l hl w hW
  generalize wt num (segs l) = R at c ⊢
  clear hW
  go_enter Tryz.func7, Tryz.ntmps7
  go_wp2_with (go_at_call 16; go_fit c; rintro e w' ⟨rfl, hb⟩)
  go_ret
  exact ⟨rfl, hb⟩

set_option maxHeartbeats 1600000 in
theorem zzb_calls (a b : List UInt8) (ha : a.length < 9223372036854775808) (hb : b.length < 9223372036854775808) (w : World) : ∃ r : Bool, (r = true → a.length ≤ 1048576 ∧ b.length ≤ 1048576) ∧ Calls Tryz.prog 6 #[.string (str a), .string (str b)] w (hqPost w r) := by
  by_cases h1 : (a.length : Int) > 1048576
  · refine ⟨false, by simp, ?_⟩
    go_enter Tryz.func6, Tryz.ntmps6
    go_wp2
    go_ret
    exact ⟨rfl, rfl⟩
  by_cases h2 : (b.length : Int) > 1048576
  · refine ⟨false, by simp, ?_⟩
    go_enter Tryz.func6, Tryz.ntmps6
    go_wp2
    go_ret
    exact ⟨rfl, rfl⟩
  by_cases h3 : (a.length : Int) + b.length > 1048576
  · refine ⟨false, by simp, ?_⟩
    go_enter Tryz.func6, Tryz.ntmps6
    go_wp2
    go_ret
    exact ⟨rfl, rfl⟩
  refine ⟨true, fun _ => ⟨by omega, by omega⟩, ?_⟩
  go_enter Tryz.func6, Tryz.ntmps6
  go_wp2
  go_ret
  exact ⟨rfl, rfl⟩
end Go.Proofs.Qxb6606206aGreatDoor
