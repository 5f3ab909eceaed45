import Derived.Test.Qxb6609089aDoorW25
set_option linter.unusedSimpArgs false
set_option linter.unusedVariables false
namespace Go.Proofs.Qxb6609089aDoor
open Go Go.RowKit
theorem lit34 : (ByteArray.mk #[34]) = str [34] := rfl
attribute [local go_sem] str_size str_get str_extract str_toList str_append str_data lit34

set_option maxHeartbeats 800000 in
theorem keep_big (k : Int) (b : Bool) (i : Int) (s : ByteArray) (w : World) (h : 1048576 < s.size) :
    Calls Tryd.prog 3 #[.int .u8 k, .bool b, .int .i64 i, .string s] w (LawP w) := by
  have cZ := zz6_no k b i s w h
  go_enter Tryd.func3, Tryd.ntmps3
  go_wp2_with (go_at_call 6; go_fit cZ; rintro z w' ⟨rfl, hw⟩; have hw' := hw.symm; subst hw'; clear hw)
  go_ret
  exact ⟨rfl, Below.refl _ _⟩

set_option maxHeartbeats 1600000 in
theorem keep_other (k : Int) (b : Bool) (i : Int) (l : List UInt8) (w : World) (h : l.length ≤ 1048576) (hk : k ≠ 3) :
    Calls Tryd.prog 3 #[.int .u8 k, .bool b, .int .i64 i, .string (str l)] w (LawP w) := by
  have cZ := zz6_yes k b i (str l) w (by rw [str_size]; exact h)
  have cC := fun w' => Canon_other k b i (str l) w' hk
  have hk3 : (k != 3) = true := by rw [bne_iff_ne]; exact hk
  clear hk
  go_enter Tryd.func3, Tryd.ntmps3
  go_wp2_with (first
    | (go_at_call 6; go_fit cZ; rintro z w' ⟨rfl, hw⟩; have hw' := hw.symm; subst hw'; clear hw)
    | (go_at_call 7; go_fit (cC _); rintro z w3 ⟨rfl, hb3⟩))
  have hba := (Below.refl w.heap.size w).alloc (Nat.le_refl _) (.cells #[.int .u8 k, .bool b, .int .i64 i, .string (str l)] 25)
  have hb4 := hba.trans (hb3.mono hba.size)
  go_ret
  exact ⟨rfl, hb4.alloc hb4.size _⟩

set_option maxHeartbeats 3200000 in
theorem keep_string (b : Bool) (i : Int) (l S QL : List UInt8) (n : Nat) (pl : Bool) (T : Lib.PrintTabs) (w : World) (t : TypeId) (x : Value) (h : l.length ≤ 1048576) (hC : CT T t x w)
    (hS : Uq.unq l = str S) (hQ : canonS T l = str QL) (hS2 : Uq.unq QL = str S) (hQ2 : canonS T QL = str QL) (hSl : S.length ≤ 4194304) (hQl : QL.length ≤ 1000000000) (hn : QL.length = n + 2)
    (h0 : QL[0]'(by omega) = 34) (h1 : QL[n + 1]'(by omega) = 34) (hpl : S.all plainB = pl) (hpq : pl = true → QL = 34 :: (S ++ [34])) :
    Calls Tryd.prog 3 #[.int .u8 3, .bool b, .int .i64 i, .string (str l)] w (LawP w) := by
  have cZ := zz6_yes 3 b i (str l) w (by rw [str_size]; exact h)
  have cC := fun w' (hb : Below w.heap.size w w') => Canon_string b i l T w' t x (by omega) (hC.below hb)
  have cC2 := fun w' (hb : Below w.heap.size w w') => Canon_string b i QL T w' t x (by omega) (hC.below hb)
  have cS := fun w' (hb : Below w.heap.size w w') => Str_calls 3 b i l T w' t x (by omega) (hC.below hb)
  have cS2 := fun w' (hb : Below w.heap.size w w') => Str_calls 3 b i QL T w' t x (by omega) (hC.below hb)
  have cP := fun w' => plain_calls S w' (by omega)
  simp only [hS] at cS
  simp only [hQ] at cC
  simp only [hS2] at cS2
  simp only [hQ2] at cC2
  simp only [hpl] at cP
  clear hS hQ hS2 hQ2 hpl hC
  have q0 : ((QL[0]'(by omega)).toNat : Int) = 34 := by rw [h0]; rfl
  have q1 : ((QL[n + 1]'(by omega)).toNat : Int) = 34 := by rw [h1]; rfl
  have HPQ := hid_of hpq
  clear h0 h1 hpq
  go_enter Tryd.func3, Tryd.ntmps3
  go_wp2_with (go_at_call 6; go_fit cZ; rintro z w' ⟨rfl, hw⟩; have hw' := hw.symm; subst hw'; clear hw)
  have hB0 := (Below.refl w.heap.size w).alloc (Nat.le_refl _) (.cells #[.int .u8 3, .bool b, .int .i64 i, .string (str l)] 25)
  have V0 : VAt (w.alloc (.cells #[.int .u8 3, .bool b, .int .i64 i, .string (str l)] 25)) w.heap.size 3 b i (str l) := ⟨by simp [go_sem], by simp [go_sem], by simp [go_sem], by simp [go_sem]⟩
  generalize (w.alloc (.cells #[.int .u8 3, .bool b, .int .i64 i, .string (str l)] 25)) = W0 at hB0 V0 ⊢
  generalize w.heap.size = g1 at V0 ⊢
  refine (cC _ hB0).mono ?_
  rintro e w3 ⟨rfl, hb3⟩
  have hB3 := hB0.trans (hb3.mono hB0.size)
  have hal := (Below.refl w3.heap.size w3).alloc (Nat.le_refl _) (.cells #[.int .u8 3, .bool b, .int .i64 i, .string (str QL)] 25)
  have hB3a := hB3.trans (hal.mono hB3.size)
  have V0a := (V0.below hb3).below hal
  have VC : VAt (w3.alloc (.cells #[.int .u8 3, .bool b, .int .i64 i, .string (str QL)] 25)) w3.heap.size 3 b i (str QL) := ⟨by simp [go_sem], by simp [go_sem], by simp [go_sem], by simp [go_sem]⟩
  have a0 := V0a.c0; have a1 := V0a.c1; have a2 := V0a.c2; have a3 := V0a.c3
  go_wp2_with fail
  refine (cS _ hB3a).mono ?_
  rintro e w4 ⟨rfl, hb4⟩
  have hB4 := hB3a.trans (hb4.mono hB3a.size)
  have VC4 := VC.below hb4
  have e0 := VC4.c0; have e1 := VC4.c1; have e2 := VC4.c2; have e3 := VC4.c3
  clear a0 a1 a2 a3 V0 V0a hb3 hal
  go_wp2_with fail
  refine (cS2 _ hB4).mono ?_
  rintro e w5 ⟨rfl, hb5⟩
  have hB5 := hB4.trans (hb5.mono hB4.size)
  have VC5 := VC4.below hb5
  have e0 := VC5.c0; have e1 := VC5.c1; have e2 := VC5.c2; have e3 := VC5.c3
  clear VC hb4 VC4
  go_wp2_with fail
  have hD : Below w5.heap.size w5 w5.drew := (Below.refl _ _).drew
  have cC5 := cC2 w5.drew (hB5.trans (hD.mono hB5.size))
  generalize w3.heap.size = g3 at VC5 e0 e1 e2 e3 ⊢
  go_region_with (go_at_call 7; go_fit cC5; rintro e w6 ⟨rfl, hb6⟩; have hX := hD.trans (hb6.mono hD.size); have e0 := (VC5.below hX).c0; have e1 := (VC5.below hX).c1; have e2 := (VC5.below hX).c2; have e3 := (VC5.below hX).c3)
  all_goals
    have hB6 := hB5.trans (hX.mono hB5.size)
    go_wp2_with (go_at_call 9; go_fit (cP _); rintro z w7 ⟨rfl, hw⟩; have hw' := hw.symm; subst hw'; clear hw)
  all_goals
    first
      | (have hpt : pl = true := by assumption
         go_ret
         refine ⟨?_, hB6⟩
         show Ending.returned (.bool (QL == 34 :: (S ++ [34]))) = _
         rw [beq_iff_eq.2 (HPQ.out hpt)])
      | (go_ret
         exact ⟨rfl, hB6⟩)

/-- **The law FnCanonicalKeepsTheValueInOneForm returns true.** -/
theorem keep_law (k : Int) (b : Bool) (i : Int) (s : ByteArray) (T : Lib.PrintTabs) (w : World) (t : TypeId) (x : Value) (hs : s.size ≤ 9223372036854775807) (hC : CT T t x w) :
    Calls Tryd.prog 3 #[.int .u8 k, .bool b, .int .i64 i, .string s] w (LawP w) := by
  by_cases hb : 1048576 < s.size
  · exact keep_big k b i s w hb
  obtain ⟨l, rfl⟩ : ∃ l, s = str l := ⟨_, str_of s⟩
  have hl : l.length ≤ 1048576 := by rw [str_size] at hb; omega
  by_cases hk : k = 3
  · subst hk
    obtain ⟨S, hS⟩ : ∃ S, Uq.unq l = str S := ⟨_, str_of _⟩
    have hSl : S.length ≤ 4194304 := by
      have := Uq.unq_size l
      rw [hS, str_size] at this
      omega
    have hQ : canonS T l = str (Uq.byt (Lib.quoteZ T (str S))) := by rw [canonS, hS]; exact Uq.strOf_byt _
    have hS2 := Uq.unq_quote T S
    have hQ2 : canonS T (Uq.byt (Lib.quoteZ T (str S))) = str (Uq.byt (Lib.quoteZ T (str S))) := by rw [canonS, hS2]; exact Uq.strOf_byt _
    have hlen : (Uq.byt (Lib.quoteZ T (str S))).length ≤ 1000000000 := by
      have := Lib.quoteZ_length_le T (str S)
      rw [str_size] at this
      simp only [Uq.byt, List.length_map]
      omega
    have hform := Uq.quoteZ_byt T S
    refine keep_string b i l S (Uq.byt (Lib.quoteZ T (str S))) (Uq.body T S.length S).length (S.all plainB) T w t x hl hC hS hQ hS2 hQ2 hSl hlen (by rw [hform]; simp) ?_ ?_ rfl ?_
    · simp only [hform, List.getElem_cons_zero]
    · simp only [hform, List.getElem_cons_succ]
      rw [List.getElem_append_right (Nat.le_refl _)]
      simp
    · intro hp
      rw [hform, Uq.body_plain T S.length S (Nat.le_refl _) fun c hc => ?_]
      have h1 := List.all_eq_true.1 hp c hc
      simp only [plainB, Bool.not_eq_true', Bool.or_eq_false_iff, decide_eq_false_iff_not, beq_eq_false_iff_ne] at h1
      exact ⟨by omega, by omega, h1.1.2, h1.2⟩
  · exact keep_other k b i l w hl hk

end Go.Proofs.Qxb6609089aDoor
