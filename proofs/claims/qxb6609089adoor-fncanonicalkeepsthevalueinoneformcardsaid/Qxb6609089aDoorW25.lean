import Derived.Test.Qxb6609089aDoorW24
import Derived.Test.Qxb6609089aDoorL6
import Derived.Deep.RegionWith
set_option linter.unusedSimpArgs false
set_option linter.unusedVariables false
namespace Go.Proofs.Qxb6609089aDoor
open Go Go.RowKit
attribute [local go_sem] str_size str_get str_extract str_toList str_append str_data

def LawP (w : World) (e : Ending) (w' : World) : Prop := e = .returned (.bool true) ∧ Below w.heap.size w w'

/-- The Quoted field behind Canonical. -/
def cq (T : Lib.PrintTabs) (k : Int) (l : List UInt8) : ByteArray := if k = 3 then canonS T l else str l
theorem Canon_calls (k : Int) (b : Bool) (i : Int) (l : List UInt8) (T : Lib.PrintTabs) (w : World) (t : TypeId) (x : Value) (hl : l.length ≤ 1000000000) (hC : CT T t x w) :
    Calls Tryd.prog 7 #[.agg #[.int .u8 k, .bool b, .int .i64 i, .string (str l)]] w fun e w' => e = .returned (.agg #[.int .u8 k, .bool b, .int .i64 i, .string (cq T k l)]) ∧ Below w.heap.size w w' := by
  unfold cq
  by_cases hk : k = 3
  · subst hk
    rw [if_pos rfl]
    exact Canon_string b i l T w t x hl hC
  · rw [if_neg hk]
    exact Canon_other k b i (str l) w hk

/-- A Value lies in block g. -/
structure VAt (w : World) (g : Nat) (k : Int) (b : Bool) (i : Int) (s : ByteArray) : Prop where
  c0 : w.cell? ⟨g, 0, none⟩ = some (.int .u8 k)
  c1 : w.cell? ⟨g, 1, none⟩ = some (.bool b)
  c2 : w.cell? ⟨g, 2, none⟩ = some (.int .i64 i)
  c3 : w.cell? ⟨g, 3, none⟩ = some (.string s)
theorem VAt.lt {w : World} {g : Nat} {k : Int} {b : Bool} {i : Int} {s : ByteArray} (h : VAt w g k b i s) : g < w.heap.size := World.block_lt_of_cell? w _ h.c0
theorem VAt.below {w w' : World} {g : Nat} {k : Int} {b : Bool} {i : Int} {s : ByteArray} (h : VAt w g k b i s) (hb : Below w.heap.size w w') : VAt w' g k b i s :=
  ⟨by rw [hb.cell (p := ⟨g, 0, none⟩) h.lt]; exact h.c0, by rw [hb.cell (p := ⟨g, 1, none⟩) h.lt]; exact h.c1, by rw [hb.cell (p := ⟨g, 2, none⟩) h.lt]; exact h.c2, by rw [hb.cell (p := ⟨g, 3, none⟩) h.lt]; exact h.c3⟩

theorem quote_inj (T : Lib.PrintTabs) (s s' : ByteArray) (h : strOfNums (Lib.quoteZ T s) = strOfNums (Lib.quoteZ T s')) : s = s' := by
  rw [str_of s, str_of s', Uq.strOf_byt, Uq.strOf_byt] at h
  have h1 := str_inj.1 h
  have h2 := congrArg Uq.unq h1
  rw [Uq.unq_quote, Uq.unq_quote, ← str_of, ← str_of] at h2
  exact h2
theorem eqB_iff (a b : ByteArray) : (a.toList == b.toList) = decide (a = b) := by
  rw [Bool.eq_iff_iff, beq_iff_eq, decide_eq_true_iff]
  constructor
  · intro h
    rw [Lib.toList_data, Lib.toList_data] at h
    exact ByteArray.ext (Array.toList_inj.1 h)
  · intro h; rw [h]
theorem canon_iff (T : Lib.PrintTabs) (l1 l2 : List UInt8) : ((cq T 3 l1).toList == (cq T 3 l2).toList) = ((Uq.unq l1).toList == (Uq.unq l2).toList) := by
  rw [eqB_iff, eqB_iff]
  congr 1
  apply propext
  unfold cq canonS
  rw [if_pos rfl, if_pos rfl]
  exact ⟨quote_inj T _ _, fun h => by rw [h]⟩

set_option maxHeartbeats 6400000 in
theorem eq_s3 (b : Bool) (i : Int) (l1 l2 : List UInt8) (T : Lib.PrintTabs) (w : World) (t : TypeId) (x : Value) (h1 : l1.length ≤ 524288) (h2 : l2.length ≤ 524288) (hC : CT T t x w) :
    Calls Tryd.prog 4 #[.int .u8 3, .bool b, .int .i64 i, .string (str l1), .int .u8 3, .bool b, .int .i64 i, .string (str l2)] w (LawP w) := by
  have cZ := zz10_calls 3 b i (str l1) 3 b i (str l2) w (by rw [str_size]; omega) (by rw [str_size]; omega)
  have cS1 := fun w' (hb : Below w.heap.size w w') => Str_calls 3 b i l1 T w' t x (by omega) (hC.below hb)
  have cS2 := fun w' (hb : Below w.heap.size w w') => Str_calls 3 b i l2 T w' t x (by omega) (hC.below hb)
  have cC1 := fun w' (hb : Below w.heap.size w w') => Canon_calls 3 b i l1 T w' t x (by omega) (hC.below hb)
  have cC2 := fun w' (hb : Below w.heap.size w w') => Canon_calls 3 b i l2 T w' t x (by omega) (hC.below hb)
  obtain ⟨u1, hu1⟩ : ∃ u, Uq.unq l1 = u := ⟨_, rfl⟩
  obtain ⟨u2, hu2⟩ : ∃ u, Uq.unq l2 = u := ⟨_, rfl⟩
  obtain ⟨q1, hq1⟩ : ∃ u, cq T 3 l1 = u := ⟨_, rfl⟩
  obtain ⟨q2, hq2⟩ : ∃ u, cq T 3 l2 = u := ⟨_, rfl⟩
  simp only [hu1] at cS1
  simp only [hu2] at cS2
  simp only [hq1] at cC1
  simp only [hq2] at cC2
  have hcan := canon_iff T l1 l2
  rw [hu1, hu2, hq1, hq2] at hcan
  obtain ⟨eb, heb⟩ : ∃ eb, (u1.toList == u2.toList) = eb := ⟨_, rfl⟩
  rw [heb] at hcan
  clear hu1 hu2 hq1 hq2 hC
  go_enter Tryd.func4, Tryd.ntmps4
  go_wp2_with (go_at_call 10; go_fit cZ; rintro z w' ⟨bz, rfl, hw, -⟩; have hw' := hw.symm; subst hw'; clear hw)
  · go_ret
    exact ⟨rfl, Below.refl _ _⟩
  have hB0 := ((Below.refl w.heap.size w).alloc (Nat.le_refl _) (.cells #[.int .u8 3, .bool b, .int .i64 i, .string (str l1)] 25)).alloc (show w.heap.size ≤ (w.alloc (.cells #[.int .u8 3, .bool b, .int .i64 i, .string (str l1)] 25)).heap.size by simp) (.cells #[.int .u8 3, .bool b, .int .i64 i, .string (str l2)] 25)
  have V1 : VAt ((w.alloc (.cells #[.int .u8 3, .bool b, .int .i64 i, .string (str l1)] 25)).alloc (.cells #[.int .u8 3, .bool b, .int .i64 i, .string (str l2)] 25)) w.heap.size 3 b i (str l1) := ⟨by simp [go_sem], by simp [go_sem], by simp [go_sem], by simp [go_sem]⟩
  have V2 : VAt ((w.alloc (.cells #[.int .u8 3, .bool b, .int .i64 i, .string (str l1)] 25)).alloc (.cells #[.int .u8 3, .bool b, .int .i64 i, .string (str l2)] 25)) (w.heap.size + 1) 3 b i (str l2) := ⟨by simp [go_sem], by simp [go_sem], by simp [go_sem], by simp [go_sem]⟩
  generalize ((w.alloc (.cells #[.int .u8 3, .bool b, .int .i64 i, .string (str l1)] 25)).alloc (.cells #[.int .u8 3, .bool b, .int .i64 i, .string (str l2)] 25)) = W0 at hB0 V1 V2 ⊢
  generalize w.heap.size = g1 at V1 V2 ⊢
  have hD : Below W0.heap.size W0 W0.drew := (Below.refl _ _).drew
  have a0 := V1.c0; have a1 := V1.c1; have a2 := V1.c2; have a3 := V1.c3
  have d0 := V2.c0; have d1 := V2.c1; have d2 := V2.c2; have d3 := V2.c3
  go_region_with (go_at_call 8; (first | go_fit (cS1 _ (hB0.trans (hX.mono hB0.size))) | go_fit (cS2 _ (hB0.trans (hX.mono hB0.size))) | go_fit (cS1 _ (hB0.trans (hD.mono hB0.size))) | go_fit (cS2 _ (hB0.trans (hD.mono hB0.size)))); rintro e w2 ⟨rfl, hb2⟩; (first | have hX := hX.trans (hb2.mono hX.size) | have hX := hD.trans (hb2.mono hD.size)); have a0 := (V1.below hX).c0; have a1 := (V1.below hX).c1; have a2 := (V1.below hX).c2; have a3 := (V1.below hX).c3; have d0 := (V2.below hX).c0; have d1 := (V2.below hX).c1; have d2 := (V2.below hX).c2; have d3 := (V2.below hX).c3)
  all_goals
    clear hD
    have hBX := hB0.trans (hX.mono hB0.size)
    have V1X := V1.below hX
    have V2X := V2.below hX
    go_wp2_with fail
    refine (cC1 _ hBX).mono ?_
    rintro e w3 ⟨rfl, hb3⟩
    have V13 := V1X.below hb3
    have V23 := V2X.below hb3
    have hB3 := hBX.trans (hb3.mono hBX.size)
    have hal := (Below.refl w3.heap.size w3).alloc (Nat.le_refl _) (.cells #[.int .u8 3, .bool b, .int .i64 i, .string q1] 25)
    have hB3a := hB3.trans (hal.mono hB3.size)
    have V13 := V13.below hal
    have V23 := V23.below hal
    have VC : VAt (w3.alloc (.cells #[.int .u8 3, .bool b, .int .i64 i, .string q1] 25)) w3.heap.size 3 b i q1 := ⟨by simp [go_sem], by simp [go_sem], by simp [go_sem], by simp [go_sem]⟩
    have d0 := V23.c0; have d1 := V23.c1; have d2 := V23.c2; have d3 := V23.c3
    go_wp2_with fail
    refine (cC2 _ hB3a).mono ?_
    rintro e w4 ⟨rfl, hb4⟩
    have hB4 := hB3a.trans (hb4.mono hB3a.size)
    have V14 := V13.below hb4
    have V24 := V23.below hb4
    have VC4 := VC.below hb4
    have hal4 := (Below.refl w4.heap.size w4).alloc (Nat.le_refl _) (.cells #[.int .u8 3, .bool b, .int .i64 i, .string q2] 25)
    have hB4a := hB4.trans (hal4.mono hB4.size)
    have V14 := V14.below hal4
    have V24 := V24.below hal4
    have VC4 := VC4.below hal4
    have a0 := V14.c0; have d0 := V24.c0
    have e0 := VC4.c0; have e1 := VC4.c1; have e2 := VC4.c2; have e3 := VC4.c3
    clear V1 V2 V1X V2X V13 V23 VC V14 V24 VC4 hb3 hb4 hal hal4 hX hBX hB3 hB3a hB4 hB0
    go_wp2_with fail
  all_goals
    go_ret
    refine ⟨?_, hB4a⟩
    rcases Bool.eq_false_or_eq_true eb with h | h <;> subst h <;> first | rfl | (exact absurd rfl (by assumption)) | (exact absurd (show true = false by assumption) (by decide))

end Go.Proofs.Qxb6609089aDoor
