import Derived.Test.Qxb6606206aGreatDoorW30
set_option linter.unusedSimpArgs false
set_option linter.unusedVariables false
namespace Go.Proofs.Qxb6606206aGreatDoor
open Go Go.RowKit
attribute [local go_sem] str_size str_get str_extract str_toList str_append

def LawPost (w : World) (e : Ending) (w' : World) : Prop := e = .returned (.bool true) ∧ Below w.heap.size w w'

set_option maxHeartbeats 6400000 in
set_option maxRecDepth 20000 in
theorem law_calls (a b : List UInt8) (ha : a.length < 9223372036854775808) (hb : b.length < 9223372036854775808) (w : World) (hW : WT w) : Calls Tryz.prog 3 #[.string (str a), .string (str b)] w (LawPost w) := by
  obtain ⟨r, hr, cZ⟩ := zzb_calls a b ha hb w
  cases r with
  | false =>
    clear hr hW
    go_enter Tryz.func3, Tryz.ntmps3
    go_wp2_with (go_at_call 6; go_fit cZ; rintro e w1 ⟨rfl, hw1⟩; have hw1' := hw1.symm; subst hw1'; clear hw1)
    go_ret
    exact ⟨rfl, Below.refl _ _⟩
  | true =>
    obtain ⟨h1, h2⟩ := hr rfl
    clear hr ha hb
    by_cases g1 : (a.length : Int) > 524288
    · clear hW
      go_enter Tryz.func3, Tryz.ntmps3
      go_wp2_with (go_at_call 6; go_fit cZ; rintro e w1 ⟨rfl, hw1⟩; have hw1' := hw1.symm; subst hw1'; clear hw1)
      go_ret
      exact ⟨rfl, Below.refl _ _⟩
    by_cases g2 : (b.length : Int) > 524288
    · clear hW
      go_enter Tryz.func3, Tryz.ntmps3
      go_wp2_with (go_at_call 6; go_fit cZ; rintro e w1 ⟨rfl, hw1⟩; have hw1' := hw1.symm; subst hw1'; clear hw1)
      go_ret
      exact ⟨rfl, Below.refl _ _⟩
    have HW := hid_of hW
    have cA := fun w' hW' => zzw_calls a (by omega) w' hW'
    have cB := fun w' hW' => zzw_calls b (by omega) w' hW'
    have cC := fun w' hW' => zzw_calls (a ++ [59] ++ b) (by rw [List.length_append, List.length_append]; simp; omega) w' hW'
    have eC : segs (a ++ [59] ++ b) = segs a ++ segs b := by rw [List.append_assoc]; exact segs_join a b
    have cQ := fun w' => hasq_calls a (by omega) w'
    have gA := good_wt (segs a)
    have gB := good_wt (segs b)
    rw [eC] at cC
    clear hW eC
    cases hq : has (segs a) with
    | true =>
      rw [wt_left num _ _ hq] at cC
      rw [hq] at cQ
      have cS := fun w' => same_calls gA w'
      generalize wt num (segs a) = A at cA cC cS
      clear cB gA gB hq
      go_enter Tryz.func3, Tryz.ntmps3
      go_wp2_with (first
        | (go_at_call 6; go_fit cZ; rintro e w1 ⟨rfl, hw1⟩; have hw1' := hw1.symm; subst hw1'; clear hw1)
        | (go_at_call 7; go_fit (cA _ HW.out); rintro e w2 ⟨rfl, hb2⟩; have HW2 := hid_of (HW.out.below hb2))
        | (go_at_call 7; go_fit (cC _ HW2.out); rintro e w3 ⟨rfl, hb3⟩)
        | (go_at_call 8; go_fit (cQ _); rintro e w4 ⟨rfl, hw4⟩; have hw4' := hw4.symm; subst hw4'; clear hw4)
        | (go_at_call 9; go_fit (cS _); rintro e w5 ⟨rfl, hw5⟩; have hw5' := hw5.symm; subst hw5'; clear hw5))
      go_ret
      exact ⟨rfl, hb2.trans (hb3.mono hb2.size)⟩
    | false =>
      rw [wt_right num _ _ hq] at cC
      rw [wt_none num _ hq] at cA
      rw [hq] at cQ
      have cS := fun w' => same_calls gB w'
      generalize wt num (segs b) = B at cB cC cS
      have hone : (FloatKind.f64.format.order 4607182418800017408 4607182418800017408 == some .eq) = true := by decide +kernel
      clear gA gB hq
      go_enter Tryz.func3, Tryz.ntmps3
      go_wp2_with (first
        | (go_at_call 6; go_fit cZ; rintro e w1 ⟨rfl, hw1⟩; have hw1' := hw1.symm; subst hw1'; clear hw1)
        | (go_at_call 7; go_fit (cA _ HW.out); rintro e w2 ⟨rfl, hb2⟩; have HW2 := hid_of (HW.out.below hb2))
        | (go_at_call 7; go_fit (cC _ HW2.out); rintro e w3 ⟨rfl, hb3⟩; have HW3 := hid_of (HW2.out.below hb3))
        | (go_at_call 8; go_fit (cQ _); rintro e w4 ⟨rfl, hw4⟩; have hw4' := hw4.symm; subst hw4'; clear hw4)
        | (go_at_call 7; go_fit (cB _ HW3.out); rintro e w5 ⟨rfl, hb5⟩)
        | (go_at_call 9; go_fit (cS _); rintro e w6 ⟨rfl, hw6⟩; have hw6' := hw6.symm; subst hw6'; clear hw6))
      go_ret
      have h23 := hb2.trans (hb3.mono hb2.size)
      exact ⟨rfl, h23.trans (hb5.mono h23.size)⟩
end Go.Proofs.Qxb6606206aGreatDoor
