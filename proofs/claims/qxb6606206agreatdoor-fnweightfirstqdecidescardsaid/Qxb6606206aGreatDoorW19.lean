import Derived.Test.Qxb6606206aGreatDoorW18
import Derived.Laws.FloatArith
set_option linter.unusedSimpArgs false
set_option linter.unusedVariables false
namespace Go.Proofs.Qxb6606206aGreatDoor
open Go Go.RowKit

/-- No NaN. -/
def NN (x : Nat) : Prop := x % 9223372036854775808 ≤ 9218868437227405312
theorem double_sign : Ieee.double.signWeight = 9223372036854775808 := by decide
theorem double_inf : Ieee.double.infRung = 9218868437227405312 := by decide
theorem nn_word (neg : Bool) (r : Nat) (h : r ≤ 9218868437227405312) : NN (Ieee.double.word neg r) := by
  unfold NN Ieee.Format.word
  rw [double_sign]
  cases neg <;> simp <;> omega
theorem nn_number (neg : Bool) (m : Nat) (p : Int) : NN (Ieee.double.write (.number neg m p)) := by
  show NN (Ieee.double.nearest neg m p)
  unfold Ieee.Format.nearest
  split
  · exact nn_word _ _ (by omega)
  · refine nn_word _ _ ?_
    rw [double_inf]
    exact Nat.min_le_right _ _
theorem nn_inf (neg : Bool) : NN (Ieee.double.write (.infinity neg)) := by
  unfold Ieee.Format.write
  refine nn_word _ _ ?_
  rw [double_inf]
  exact Nat.le_refl _
theorem nn_read {x : Nat} (h : NN x) : (∃ s m p, Ieee.double.read x = .number s m p) ∨ (∃ s, Ieee.double.read x = .infinity s) := by
  unfold NN at h
  unfold Ieee.Format.read
  simp only [double_sign, double_inf]
  split
  · exact .inl ⟨_, _, _, rfl⟩
  · split
    · exact .inl ⟨_, _, _, rfl⟩
    · split
      · exact .inr ⟨_, rfl⟩
      · exfalso; omega
/-- A number that is not 0. -/
def NZ (y : Nat) : Prop := ∃ s n j, Ieee.double.read y = .number s n j ∧ n ≠ 0
theorem mul_nn {x y : Nat} (hx : NN x) (hy : NZ y) : ∃ r, floatBits .mul .f64 x y = some r ∧ NN r := by
  obtain ⟨t, n, j, hy, hn⟩ := hy
  show ∃ r, Ieee.double.mul x y = some r ∧ NN r
  unfold Ieee.Format.mul
  rw [hy]
  rcases nn_read hx with ⟨s, m, p, h⟩ | ⟨s, h⟩
  · rw [h]; exact ⟨_, rfl, nn_number _ _ _⟩
  · rw [h]
    simp only [Ieee.Datum.product, hn, if_false]
    exact ⟨_, rfl, nn_inf _⟩
theorem div_nn {x y : Nat} (hx : NN x) (hy : NZ y) : ∃ r, floatBits .quo .f64 x y = some r ∧ NN r := by
  obtain ⟨t, n, j, hy, hn⟩ := hy
  show ∃ r, Ieee.double.div x y = some r ∧ NN r
  unfold Ieee.Format.div
  rw [hy]
  rcases nn_read hx with ⟨s, m, p, h⟩ | ⟨s, h⟩
  · rw [h]
    simp only [Ieee.Datum.quotient, hn, if_false]
    exact ⟨_, rfl, nn_number _ _ _⟩
  · rw [h]; exact ⟨_, rfl, nn_inf _⟩
theorem nn_neg {x : Nat} (h : NN x) : NN (Op.negFloat .f64 x) := by
  unfold NN at h ⊢
  have e : Op.negFloat .f64 x = x ^^^ 2 ^ 63 := rfl
  rw [e]
  have : (x ^^^ 2 ^ 63) % 2 ^ 63 = x % 2 ^ 63 := by
    rw [Nat.xor_mod_two_pow]
    simp
  have e2 : (9223372036854775808 : Nat) = 2 ^ 63 := by decide
  rw [e2, this]
  rw [e2] at h
  exact h
theorem nn_ofInt (n : Int) : NN (floatOfInt .f64 n) := nn_number _ _ _

/-- The table float64pow10. -/
def f10 (i : Nat) : Nat := [4607182418800017408, 4621819117588971520, 4636737291354636288, 4652007308841189376, 4666723172467343360, 4681608360884174848, 4696837146684686336, 4711630319722168320, 4726483295884279808, 4741671816366391296, 4756540486875873280, 4771362005757984768, 4786511204640096256, 4801453603149578240, 4816244402031689728, 4831355200913801216, 4846369599423283200, 4861130398305394688, 4876203697187506176, 4891288408196988160, 4906019910204099648, 4921056587992461136, 4936209963552724370].getD i 4607182418800017408
def nzB (y : Nat) : Bool := match Ieee.double.read y with | .number _ n _ => n != 0 | _ => false
theorem f10All : ((List.range 23).all fun i => nzB (f10 i)) = true := by kernel_rfl
theorem f10_nz (i : Nat) (h : i < 23) : NZ (f10 i) := by
  have := List.all_eq_true.1 f10All i (by simpa using h)
  unfold nzB at this
  split at this
  · rename_i s n j e
    exact ⟨s, n, j, e, by simpa using this⟩
  · cases this

/-- What atof64exact reads. -/
structure FP (w : World) (fb fo fc : Nat) : Prop where
  i0 : w.cell? ⟨10, 0, none⟩ = some (.int .u64 52)
  c : w.cell? ⟨13, 0, none⟩ = some (.slice (some ⟨fb, fo, none⟩) 23 fc)
  row : ∀ i, i < 23 → w.cell? ⟨fb, fo + i, none⟩ = some (.float .f64 (f10 i))

theorem unary_negF (b : Nat) : Op.unary .neg (.float .f64 b) = pure (.float .f64 (Op.negFloat .f64 b)) := rfl
attribute [local go_sem] unary_negF

/-- atof64exact, from the float of the mantissa on. -/
def Ex82 (m e : Int) (neg : Bool) (f : Nat) (ok : Bool) : Prop := ∀ (fb fo fc : Nat) (w : World), FP w fb fo fc → Calls Tryz.prog 82 #[.int .u64 m, .int .i64 e, .bool neg] w fun e w' => e = .returned (.tuple #[.float .f64 f, .bool ok]) ∧ w' = w

set_option maxHeartbeats 6400000 in
set_option maxRecDepth 20000 in
theorem exact_gives (m e : Int) (neg : Bool) (hm0 : 0 ≤ m) (hm1 : m ≤ 18446744073709551615) : ∃ f ok, Ex82 m e neg f ok := by
  by_cases hbig : m ≥ 4503599627370496
  · refine ⟨0, false, fun fb fo fc w h => ?_⟩
    have i0 := h.i0
    have hq : (m / 4503599627370496 != 0) = true := by rw [bne_iff_ne]; omega
    clear h
    go_enter Tryz.func82, Tryz.ntmps82
    go_wp2_with fail
    go_ret2
    exact ⟨rfl, rfl⟩
  have hq : (m / 4503599627370496 != 0) = false := by
    have : m / 4503599627370496 = 0 := by omega
    rw [this]; rfl
  obtain ⟨F, hF, hFn⟩ : ∃ F, floatOfInt .f64 m = F ∧ NN F := ⟨_, rfl, nn_ofInt m⟩
  obtain ⟨G, hG, hGn⟩ : ∃ G, (if neg then Op.negFloat .f64 F else F) = G ∧ NN G := ⟨_, rfl, by split; exact nn_neg hFn; exact hFn⟩
  have hneg : neg = true ∧ Op.negFloat .f64 F = G ∨ neg = false ∧ F = G := by
    cases neg
    · exact .inr ⟨rfl, hG⟩
    · exact .inl ⟨rfl, hG⟩
  clear hG
  by_cases h0 : e = 0
  · refine ⟨G, true, fun fb fo fc w h => ?_⟩
    have i0 := h.i0
    clear h
    subst h0
    rcases hneg with ⟨rfl, hG⟩ | ⟨rfl, rfl⟩
    all_goals
      go_enter Tryz.func82, Tryz.ntmps82
      go_wp2_with fail
      go_ret2
      exact ⟨rfl, rfl⟩
  by_cases hp : 0 < e
  · by_cases h37 : e ≤ 37
    · by_cases h22 : e > 22
      · obtain ⟨i, hi⟩ : ∃ i : Nat, e = (i : Int) + 22 := ⟨(e - 22).toNat, by omega⟩
        subst hi
        obtain ⟨M, hM, hMn⟩ := mul_nn hGn (f10_nz i (by omega))
        have kM : ∀ t w, (binOp .mul t (.float .f64 G) (.float .f64 (f10 i))).run Tryz.prog w = .ok (.float .f64 M) w := fun t w => run_float_arith w .mul t .f64 G (f10 i) M hM
        obtain ⟨N, hN, hNn⟩ := mul_nn hMn (f10_nz 22 (by omega))
        have kN : ∀ t w, (binOp .mul t (.float .f64 M) (.float .f64 (f10 22))).run Tryz.prog w = .ok (.float .f64 N) w := fun t w => run_float_arith w .mul t .f64 M (f10 22) N hN
        have hii : (i : Int) + 22 - 22 = (i : Int) := by omega
        have hil : (i : Int) < 23 := by omega
        have h0' : ((i : Int) + 22 == 0) = false := by rw [beq_eq_false_iff_ne]; omega
        cases hb1 : (FloatKind.f64.format.order M 4831355200913801216 == some Ordering.gt) with
        | true =>
          refine ⟨M, false, fun fb fo fc w h => ?_⟩
          have i0 := h.i0
          have c := h.c
          have r1 := h.row i (by omega)
          clear h hM hN
          rcases hneg with ⟨rfl, hG⟩ | ⟨rfl, rfl⟩
          all_goals
            go_enter Tryz.func82, Tryz.ntmps82
            go_wp2_with fail
            go_ret2
            exact ⟨rfl, rfl⟩
        | false =>
          cases hb2 : (FloatKind.f64.format.order M 14054727237768577024 == some Ordering.lt) with
          | true =>
            refine ⟨M, false, fun fb fo fc w h => ?_⟩
            have i0 := h.i0
            have c := h.c
            have r1 := h.row i (by omega)
            clear h hM hN
            rcases hneg with ⟨rfl, hG⟩ | ⟨rfl, rfl⟩
            all_goals
              go_enter Tryz.func82, Tryz.ntmps82
              go_wp2_with fail
              go_ret2
              exact ⟨rfl, rfl⟩
          | false =>
            refine ⟨N, true, fun fb fo fc w h => ?_⟩
            have i0 := h.i0
            have c := h.c
            have r1 := h.row i (by omega)
            have r2 := h.row 22 (by omega)
            clear h hM hN
            rcases hneg with ⟨rfl, hG⟩ | ⟨rfl, rfl⟩
            all_goals
              go_enter Tryz.func82, Tryz.ntmps82
              go_wp2_with fail
              go_ret2
              exact ⟨rfl, rfl⟩
      · obtain ⟨i, hi⟩ : ∃ i : Nat, e = (i : Int) := ⟨e.toNat, by omega⟩
        subst hi
        obtain ⟨N, hN, hNn⟩ := mul_nn hGn (f10_nz i (by omega))
        have kN : ∀ t w, (binOp .mul t (.float .f64 G) (.float .f64 (f10 i))).run Tryz.prog w = .ok (.float .f64 N) w := fun t w => run_float_arith w .mul t .f64 G (f10 i) N hN
        have hil : (i : Int) < 23 := by omega
        have h0' : ((i : Int) == 0) = false := by rw [beq_eq_false_iff_ne]; omega
        cases hb1 : (FloatKind.f64.format.order G 4831355200913801216 == some Ordering.gt) with
        | true =>
          refine ⟨G, false, fun fb fo fc w h => ?_⟩
          have i0 := h.i0
          clear h hN
          rcases hneg with ⟨rfl, hG⟩ | ⟨rfl, rfl⟩
          all_goals
            go_enter Tryz.func82, Tryz.ntmps82
            go_wp2_with fail
            go_ret2
            exact ⟨rfl, rfl⟩
        | false =>
          cases hb2 : (FloatKind.f64.format.order G 14054727237768577024 == some Ordering.lt) with
          | true =>
            refine ⟨G, false, fun fb fo fc w h => ?_⟩
            have i0 := h.i0
            clear h hN
            rcases hneg with ⟨rfl, hG⟩ | ⟨rfl, rfl⟩
            all_goals
              go_enter Tryz.func82, Tryz.ntmps82
              go_wp2_with fail
              go_ret2
              exact ⟨rfl, rfl⟩
          | false =>
            refine ⟨N, true, fun fb fo fc w h => ?_⟩
            have i0 := h.i0
            have c := h.c
            have r1 := h.row i (by omega)
            clear h hN
            rcases hneg with ⟨rfl, hG⟩ | ⟨rfl, rfl⟩
            all_goals
              go_enter Tryz.func82, Tryz.ntmps82
              go_wp2_with fail
              go_ret2
              exact ⟨rfl, rfl⟩
    · refine ⟨G, false, fun fb fo fc w h => ?_⟩
      have i0 := h.i0
      have h0' : (e == 0) = false := by rw [beq_eq_false_iff_ne]; omega
      clear h
      rcases hneg with ⟨rfl, hG⟩ | ⟨rfl, rfl⟩
      all_goals
        go_enter Tryz.func82, Tryz.ntmps82
        go_wp2_with fail
        go_ret2
        exact ⟨rfl, rfl⟩
  · have h0' : (e == 0) = false := by rw [beq_eq_false_iff_ne]; omega
    by_cases h22 : e ≥ -22
    · obtain ⟨i, hi⟩ : ∃ i : Nat, e = -(i : Int) := ⟨(-e).toNat, by omega⟩
      subst hi
      obtain ⟨N, hN, hNn⟩ := div_nn hGn (f10_nz i (by omega))
      have kN : ∀ t w, (binOp .quo t (.float .f64 G) (.float .f64 (f10 i))).run Tryz.prog w = .ok (.float .f64 N) w := fun t w => run_float_arith w .quo t .f64 G (f10 i) N hN
      have hil : (i : Int) < 23 := by omega
      have hip : -(i : Int) < 0 := by omega
      have hnn : - -(i : Int) = (i : Int) := by omega
      refine ⟨N, true, fun fb fo fc w h => ?_⟩
      have i0 := h.i0
      have c := h.c
      have r1 := h.row i (by omega)
      clear h hN
      rcases hneg with ⟨rfl, hG⟩ | ⟨rfl, rfl⟩
      all_goals
        go_enter Tryz.func82, Tryz.ntmps82
        go_wp2_with fail
        go_ret2
        exact ⟨rfl, rfl⟩
    · refine ⟨G, false, fun fb fo fc w h => ?_⟩
      have i0 := h.i0
      have hne : e < 0 := by omega
      clear h
      rcases hneg with ⟨rfl, hG⟩ | ⟨rfl, rfl⟩
      all_goals
        go_enter Tryz.func82, Tryz.ntmps82
        go_wp2_with fail
        go_ret2
        exact ⟨rfl, rfl⟩
end Go.Proofs.Qxb6606206aGreatDoor
