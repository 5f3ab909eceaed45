import Derived.Test.Qxb6606206aGreatDoorW12
import Derived.WalkMore
set_option linter.unusedSimpArgs false
set_option linter.unusedVariables false
namespace Go
/-- As Q; by a goto to label 0 or 1: what stands behind the label is run, and no more gotos. -/
def Exit.go2 (P : Program) (r0 r1 : Code) (Q : Exit → Act → World → Prop) : Exit → Act → World → Prop
  | .goto l, a, w => (l = 0 ∧ r0.wp P (Exit.noGoto Q) a w) ∨ (l = 1 ∧ r1.wp P (Exit.noGoto Q) a w)
  | e, a, w => Q e a w
section
variable {P : Program} {a : Act} {w : World} {Q : Exit → Act → World → Prop}
theorem wp_scope_two {c r0 r1 : Code} (h0 : findLabel c 0 = some r0) (h1 : findLabel c 1 = some r1) (first : c.wp P (Exit.go2 P r0 r1 Q) a w) : (Code.scope c).wp P Q a w := by
  intro b k cs
  have key : ∀ (l : Nat) (rest : Code) a w, findLabel c l = some rest → rest.wp P (Exit.noGoto Q) a w → ∃ e a' w', Q e a' w' ∧ Arrives P (lone (b.at a (.code rest :: .inScope c :: k)) cs w) b k cs e a' w' := by
    intro l rest a w hf hJ
    obtain ⟨e, a₁, w₁, hq, harr⟩ := hJ b (.inScope c :: k) cs
    cases e with
    | normal => exact ⟨.normal, a₁, w₁, hq, Steps.trans harr (.one step_inScope)⟩
    | exit id => exact ⟨.exit id, a₁, w₁, hq, fun k' hk => harr k' (by simp [exitTo, hk])⟩
    | goto l' => exact hq.elim
    | ret => exact ⟨_, a₁, w₁, hq, harr⟩
    | panic ch => exact ⟨_, a₁, w₁, hq, harr⟩
    | outgrown => exact ⟨_, a₁, w₁, hq, harr⟩
  obtain ⟨e, a₁, w₁, hq, harr⟩ := first b (.inScope c :: k) cs
  cases e with
  | normal => exact ⟨.normal, a₁, w₁, hq, .head step_scope (Steps.trans harr (.one step_inScope))⟩
  | exit id => exact ⟨.exit id, a₁, w₁, hq, fun k' hk => .head step_scope (harr k' (by simp [exitTo, hk]))⟩
  | goto l' =>
    rcases hq with ⟨rfl, hJ⟩ | ⟨rfl, hJ⟩
    · obtain ⟨e₂, a₂, w₂, hq₂, harr₂⟩ := key 0 r0 a₁ w₁ h0 hJ
      exact ⟨e₂, a₂, w₂, hq₂, .of_steps (.head step_scope (harr _ (by simp [gotoIn, h0]))) harr₂⟩
    · obtain ⟨e₂, a₂, w₂, hq₂, harr₂⟩ := key 1 r1 a₁ w₁ h1 hJ
      exact ⟨e₂, a₂, w₂, hq₂, .of_steps (.head step_scope (harr _ (by simp [gotoIn, h1]))) harr₂⟩
  | ret => exact ⟨_, a₁, w₁, hq, .of_steps (.one step_scope) harr⟩
  | panic ch => exact ⟨_, a₁, w₁, hq, .of_steps (.one step_scope) harr⟩
  | outgrown => exact ⟨_, a₁, w₁, hq, .of_steps (.one step_scope) harr⟩
end
end Go
namespace Go.Proofs.Qxb6606206aGreatDoor
open Go Go.RowKit

/-- The rows of powtab; 27 beyond them. -/
def pw (i : Nat) : Nat := [1, 3, 6, 9, 13, 16, 19, 23, 26].getD i 27
theorem pw_le (i : Nat) : pw i ≤ 27 ∧ 1 ≤ pw i ∧ (1 ≤ i → 3 ≤ pw i) := by
  match i with
  | 0 | 1 | 2 | 3 | 4 | 5 | 6 | 7 | 8 => decide
  | n + 9 => exact ⟨by simp [pw], by simp [pw], by simp [pw]⟩
theorem pw_big {i : Nat} (h : 9 ≤ i) : pw i = 27 := by
  obtain ⟨n, rfl⟩ : ∃ n, i = n + 9 := ⟨i - 9, by omega⟩
  simp [pw]

/-- floatBits' first loop. -/
def fb1 : Nat → Dc → Int → Dc × Int
  | 0, s, e => (s, e)
  | f + 1, s, e => if 0 < s.dp then fb1 f (s.rshift (pw s.dp.toNat)) (e + pw s.dp.toNat) else (s, e)
/-- Its second loop goes on. -/
def gon (s : Dc) : Prop := s.dp < 0 ∨ (s.dp = 0 ∧ s.d 0 < 53)
instance (s : Dc) : Decidable (gon s) := by unfold gon; infer_instance
def fb2 : Nat → Dc → Int → Dc × Int
  | 0, s, e => (s, e)
  | f + 1, s, e => if gon s then fb2 f (s.lsh (pw (-s.dp).toNat)) (e - pw (-s.dp).toNat) else (s, e)
def mu1 (s : Dc) : Nat := 2 * s.dp.toNat + (if 56 ≤ s.d 0 then 1 else 0)
def mu2 (s : Dc) : Nat := if gon s then 10 * (-s.dp).toNat + (57 - s.d 0) + 1 else 0
theorem fb1_step {s : Dc} (hs : s.Ok) (h1 : 0 < s.nd) (hd : 0 < s.dp) : (s.rshift (pw s.dp.toNat)).Ok ∧ 0 < (s.rshift (pw s.dp.toNat)).nd ∧ mu1 (s.rshift (pw s.dp.toNat)) < mu1 s ∧ (s.rshift (pw s.dp.toNat)).dp ≤ s.dp ∧ s.dp - 1000 ≤ (s.rshift (pw s.dp.toNat)).dp := by
  have hp := pw_le s.dp.toNat
  have r := Dc.rshift_ok s (pw s.dp.toNat) hs h1 (by omega)
  have hk3 := hp.2.2 (by omega)
  refine ⟨r.1, r.2.1, ?_, r.2.2.1, r.2.2.2.1⟩
  generalize pw s.dp.toNat = k at r hk3
  obtain ⟨-, -, r3, -, r5⟩ := r
  unfold mu1
  by_cases he : (s.rshift k).dp = s.dp
  · obtain ⟨a, b⟩ := r5 he
    have hg := hs.dig 0 h1
    unfold Dc.Dig at hg
    have h8 : (8 : Nat) ≤ 2 ^ k := Nat.pow_le_pow_right (n := 2) (by decide) hk3
    have hq : (s.d 0 - 48) / 2 ^ k ≤ (s.d 0 - 48) / 8 := Nat.div_le_div_left h8 (by decide)
    rw [he, if_pos (show 56 ≤ s.d 0 by omega), if_neg (by rw [b]; omega)]
    omega
  · split <;> split <;> omega
theorem fb2_step {s : Dc} (hs : s.Ok) (h1 : 0 < s.nd) (hg : gon s) : (s.lsh (pw (-s.dp).toNat)).Ok ∧ 0 < (s.lsh (pw (-s.dp).toNat)).nd ∧ mu2 (s.lsh (pw (-s.dp).toNat)) < mu2 s ∧ s.dp ≤ (s.lsh (pw (-s.dp).toNat)).dp ∧ (s.lsh (pw (-s.dp).toNat)).dp ≤ s.dp + 20 := by
  have hp := pw_le (-s.dp).toNat
  have r := Dc.lsh_ok s (k := pw (-s.dp).toNat) hs h1 (by omega) (by omega)
  refine ⟨r.1, r.2.1, ?_, r.2.2.1, r.2.2.2.1⟩
  generalize pw (-s.dp).toNat = k at r
  obtain ⟨r1, r2, r3, -, r5⟩ := r
  have hga := hs.dig 0 h1
  have hgb := r1.dig 0 r2
  unfold Dc.Dig at hga hgb
  have hdp : s.dp ≤ 0 := by rcases hg with h | h <;> omega
  unfold mu2
  rw [if_pos hg]
  by_cases hg2 : gon (s.lsh k)
  · rw [if_pos hg2]
    have hdp2 : (s.lsh k).dp ≤ 0 := by rcases hg2 with h | h <;> omega
    by_cases he : (s.lsh k).dp = s.dp
    · have := r5 he
      rw [he]; omega
    · omega
  · rw [if_neg hg2]; omega
/-- What the first loop leaves. -/
theorem fb1_ok : ∀ (f : Nat) (s : Dc) (e : Int), s.Ok → 0 < s.nd → mu1 s < f → -999 ≤ s.dp → s.dp ≤ 310 →
    (fb1 f s e).1.Ok ∧ 0 < (fb1 f s e).1.nd ∧ -999 ≤ (fb1 f s e).1.dp ∧ (fb1 f s e).1.dp ≤ 0 ∧ e ≤ (fb1 f s e).2 ∧ (fb1 f s e).2 ≤ e + 27 * f
  | 0, s, e, hs, h1, hm, h2, h3 => by omega
  | f + 1, s, e, hs, h1, hm, h2, h3 => by
    unfold fb1
    split
    · rename_i hd
      have st := fb1_step hs h1 hd
      have hp := pw_le s.dp.toNat
      have := fb1_ok f _ (e + pw s.dp.toNat) st.1 st.2.1 (by omega) (by omega) (by omega)
      refine ⟨this.1, this.2.1, this.2.2.1, this.2.2.2.1, by omega, by omega⟩
    · exact ⟨hs, h1, h2, by show s.dp ≤ 0; omega, by simp only []; omega, by simp only []; omega⟩
theorem fb2_ok : ∀ (f : Nat) (s : Dc) (e : Int), s.Ok → 0 < s.nd → mu2 s < f → -999 ≤ s.dp → s.dp ≤ 20 →
    (fb2 f s e).1.Ok ∧ 0 < (fb2 f s e).1.nd ∧ -999 ≤ (fb2 f s e).1.dp ∧ (fb2 f s e).1.dp ≤ 20 ∧ (fb2 f s e).2 ≤ e ∧ e - 27 * f ≤ (fb2 f s e).2
  | 0, s, e, hs, h1, hm, h2, h3 => by omega
  | f + 1, s, e, hs, h1, hm, h2, h3 => by
    unfold fb2
    split
    · rename_i hg
      have st := fb2_step hs h1 hg
      have hp := pw_le (-s.dp).toNat
      have hdp : s.dp ≤ 0 := by rcases hg with h | h <;> omega
      have := fb2_ok f _ (e - pw (-s.dp).toNat) st.1 st.2.1 (by omega) (by omega) (by omega)
      refine ⟨this.1, this.2.1, this.2.2.1, this.2.2.2.1, by omega, by omega⟩
    · exact ⟨hs, h1, h2, h3, by simp only []; omega, by simp only []; omega⟩
end Go.Proofs.Qxb6606206aGreatDoor
