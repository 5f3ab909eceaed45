import Derived.Test.Qxb6609089aDoorW25
set_option linter.unusedSimpArgs false
set_option linter.unusedVariables false
namespace Go.Proofs.Qxb6609089aDoor
open Go Go.RowKit
attribute [local go_sem] str_size str_get str_extract str_toList str_append str_data

set_option maxHeartbeats 6400000 in
theorem eq_same (k : Int) (b : Bool) (i : Int) (l1 l2 : List UInt8) (T : Lib.PrintTabs) (w : World) (t : TypeId) (x : Value) (h1 : l1.length ≤ 524288) (h2 : l2.length ≤ 524288) (hC : CT T t x w) (hk : k ≠ 3) :
    Calls Tryd.prog 4 #[.int .u8 k, .bool b, .int .i64 i, .string (str l1), .int .u8 k, .bool b, .int .i64 i, .string (str l2)] w (LawP w) := by
  have cZ := zz10_calls k b i (str l1) k b i (str l2) w (by rw [str_size]; omega) (by rw [str_size]; omega)
  have cC1 := fun w' (hb : Below w.heap.size w w') => Canon_calls k b i l1 T w' t x (by omega) (hC.below hb)
  have cC2 := fun w' (hb : Below w.heap.size w w') => Canon_calls k b i l2 T w' t x (by omega) (hC.below hb)
  have hk3 : (k == 3) = false := by rw [beq_eq_false_iff_ne]; exact hk
  obtain ⟨q1, hq1⟩ : ∃ u, cq T k l1 = u := ⟨_, rfl⟩
  obtain ⟨q2, hq2⟩ : ∃ u, cq T k l2 = u := ⟨_, rfl⟩
  simp only [hq1] at cC1
  simp only [hq2] at cC2
  obtain ⟨eb, heb⟩ : ∃ eb, (l1 == l2) = eb := ⟨_, rfl⟩
  have hcan : (q1.toList == q2.toList) = eb := by
    rw [← hq1, ← hq2, cq, cq, if_neg hk, if_neg hk, str_toList, str_toList, heb]
  clear hq1 hq2 hC hk
  go_enter Tryd.func4, Tryd.ntmps4
  go_wp2_with (go_at_call 10; go_fit cZ; rintro z w' ⟨bz, rfl, hw, -⟩; have hw' := hw.symm; subst hw'; clear hw)
  · go_ret
    exact ⟨rfl, Below.refl _ _⟩
  have hB0 := ((Below.refl w.heap.size w).alloc (Nat.le_refl _) (.cells #[.int .u8 k, .bool b, .int .i64 i, .string (str l1)] 25)).alloc (show w.heap.size ≤ (w.alloc (.cells #[.int .u8 k, .bool b, .int .i64 i, .string (str l1)] 25)).heap.size by simp) (.cells #[.int .u8 k, .bool b, .int .i64 i, .string (str l2)] 25)
  have V1 : VAt ((w.alloc (.cells #[.int .u8 k, .bool b, .int .i64 i, .string (str l1)] 25)).alloc (.cells #[.int .u8 k, .bool b, .int .i64 i, .string (str l2)] 25)) w.heap.size k b i (str l1) := ⟨by simp [go_sem], by simp [go_sem], by simp [go_sem], by simp [go_sem]⟩
  have V2 : VAt ((w.alloc (.cells #[.int .u8 k, .bool b, .int .i64 i, .string (str l1)] 25)).alloc (.cells #[.int .u8 k, .bool b, .int .i64 i, .string (str l2)] 25)) (w.heap.size + 1) k b i (str l2) := ⟨by simp [go_sem], by simp [go_sem], by simp [go_sem], by simp [go_sem]⟩
  generalize ((w.alloc (.cells #[.int .u8 k, .bool b, .int .i64 i, .string (str l1)] 25)).alloc (.cells #[.int .u8 k, .bool b, .int .i64 i, .string (str l2)] 25)) = W0 at hB0 V1 V2 ⊢
  generalize w.heap.size = g1 at V1 V2 ⊢
  refine (cC1 _ hB0).mono ?_
  rintro e w3 ⟨rfl, hb3⟩
  have hB3 := hB0.trans (hb3.mono hB0.size)
  have hal := (Below.refl w3.heap.size w3).alloc (Nat.le_refl _) (.cells #[.int .u8 k, .bool b, .int .i64 i, .string q1] 25)
  have hB3a := hB3.trans (hal.mono hB3.size)
  have V13 := (V1.below hb3).below hal
  have V23 := (V2.below hb3).below hal
  have VC : VAt (w3.alloc (.cells #[.int .u8 k, .bool b, .int .i64 i, .string q1] 25)) w3.heap.size k b i q1 := ⟨by simp [go_sem], by simp [go_sem], by simp [go_sem], by simp [go_sem]⟩
  have d0 := V23.c0; have d1 := V23.c1; have d2 := V23.c2; have d3 := V23.c3
  go_wp2_with fail
  refine (cC2 _ hB3a).mono ?_
  rintro e w4 ⟨rfl, hb4⟩
  have hB4 := hB3a.trans (hb4.mono hB3a.size)
  have hal4 := (Below.refl w4.heap.size w4).alloc (Nat.le_refl _) (.cells #[.int .u8 k, .bool b, .int .i64 i, .string q2] 25)
  have hB4a := hB4.trans (hal4.mono hB4.size)
  have V14 := (V13.below hb4).below hal4
  have V24 := (V23.below hb4).below hal4
  have VC4 := (VC.below hb4).below hal4
  have a0 := V14.c0; have d0 := V24.c0
  have e0 := VC4.c0; have e1 := VC4.c1; have e2 := VC4.c2; have e3 := VC4.c3
  clear V1 V2 V13 V23 VC V14 V24 VC4 hb3 hb4 hal hal4 hB3 hB3a hB4 hB0
  go_wp2_with fail
  all_goals
    go_ret
    refine ⟨?_, hB4a⟩
    rcases Bool.eq_false_or_eq_true eb with h | h <;> subst h <;> first | rfl | (exact absurd rfl (by assumption)) | (exact absurd (show true = false by assumption) (by decide))

end Go.Proofs.Qxb6609089aDoor
