import Derived.Test.Qxb6606206aGreatDoorW3
set_option linter.unusedSimpArgs false
set_option linter.unusedVariables false
namespace Go.Proofs.Qxb6606206aGreatDoor
open Go Go.RowKit
attribute [local go_sem] frombits_run str_size str_get str_extract str_toList str_append

theorem ne_k {c : UInt8} {k : Int} (h : (c.toNat : Int) ≠ k) : ((c.toNat : Int) == k) = false := by
  rw [beq_eq_false_iff_ne]; exact h

/-- What 'special' gives: a float, how many bytes, and whether. -/
def Spec71 (l : List UInt8) : Prop := ∃ (f : Nat) (n : Nat) (ok : Bool), Gives 71 #[.string (str l)] (.tuple #[.float .f64 f, .int .i64 n, .bool ok])

set_option maxHeartbeats 1600000 in
theorem special_sign (c : UInt8) (t : List UInt8) (hc : c = 43 ∨ c = 45) (hl : t.length + 1 ≤ 1000000000) : Spec71 (c :: t) := by
  have cI := cpl_calls t [105, 110, 102, 105, 110, 105, 116, 121] (by omega) (by simp)
  have hle := (cpl_le t [105, 110, 102, 105, 110, 105, 116, 121]).2
  simp only [List.length_cons, List.length_nil] at hle
  generalize cpl t [105, 110, 102, 105, 110, 105, 116, 121] = M at cI hle
  have cF := inf_gives (if c = 45 then -1 else 1)
  by_cases h3 : M = 3 ∨ (3 < M ∧ M < 8)
  · refine ⟨infN (if c = 45 then -1 else 1), 4, true, fun w => ?_⟩
    generalize infN (if c = 45 then -1 else 1) = F at cF ⊢
    rcases hc with rfl | rfl
    all_goals
      simp only [show (43 : UInt8) = 45 ↔ False by decide, if_true, if_false] at cF
      rcases h3 with rfl | ⟨h3, h4⟩
      all_goals
        go_enter Tryz.func71, Tryz.ntmps71
        go_wp2_with (first | (go_at_call 87; go_fit (cI _); rintro e w' ⟨rfl, rfl⟩) | (go_at_call 88; go_fit (cF _); rintro e w' ⟨rfl, rfl⟩))
        go_ret3
        exact ⟨rfl, rfl⟩
  · by_cases h8 : M = 8
    · refine ⟨infN (if c = 45 then -1 else 1), 9, true, fun w => ?_⟩
      generalize infN (if c = 45 then -1 else 1) = F at cF ⊢
      subst h8
      clear h3
      rcases hc with rfl | rfl
      all_goals
        simp only [show (43 : UInt8) = 45 ↔ False by decide, if_true, if_false] at cF
        go_enter Tryz.func71, Tryz.ntmps71
        go_wp2_with (first | (go_at_call 87; go_fit (cI _); rintro e w' ⟨rfl, rfl⟩) | (go_at_call 88; go_fit (cF _); rintro e w' ⟨rfl, rfl⟩))
        go_ret3
        exact ⟨rfl, rfl⟩
    · refine ⟨0, 0, false, fun w => ?_⟩
      have h3' : M < 3 := by omega
      have k1 : ((M : Int) == 3) = false := by rw [beq_eq_false_iff_ne]; omega
      have k2 : ((M : Int) == 8) = false := by rw [beq_eq_false_iff_ne]; omega
      have k3 : ¬ (3 < (M : Int)) := by omega
      clear h3 h8 hle
      rcases hc with rfl | rfl
      all_goals
        go_enter Tryz.func71, Tryz.ntmps71
        go_wp2_with (first | (go_at_call 87; go_fit (cI _); rintro e w' ⟨rfl, rfl⟩) | (go_at_call 88; go_fit (cF _); rintro e w' ⟨rfl, rfl⟩))
        go_ret3
        exact ⟨rfl, rfl⟩

set_option maxHeartbeats 1600000 in
theorem special_i (c : UInt8) (t : List UInt8) (hc : c = 105 ∨ c = 73) (hl : t.length + 1 ≤ 1000000000) : Spec71 (c :: t) := by
  have cI := cpl_calls (c :: t) [105, 110, 102, 105, 110, 105, 116, 121] (by simpa using hl) (by simp)
  have hle := (cpl_le (c :: t) [105, 110, 102, 105, 110, 105, 116, 121]).2
  simp only [List.length_cons, List.length_nil] at hle
  generalize cpl (c :: t) [105, 110, 102, 105, 110, 105, 116, 121] = M at cI hle
  have cF := inf_gives 1
  by_cases h3 : M = 3 ∨ (3 < M ∧ M < 8)
  · refine ⟨infN 1, 3, true, fun w => ?_⟩
    generalize infN 1 = F at cF ⊢
    rcases hc with rfl | rfl
    all_goals
      rcases h3 with rfl | ⟨h3, h4⟩
      all_goals
        go_enter Tryz.func71, Tryz.ntmps71
        go_wp2_with (first | (go_at_call 87; go_fit (cI _); rintro e w' ⟨rfl, rfl⟩) | (go_at_call 88; go_fit (cF _); rintro e w' ⟨rfl, rfl⟩))
        go_ret3
        exact ⟨rfl, rfl⟩
  · by_cases h8 : M = 8
    · refine ⟨infN 1, 8, true, fun w => ?_⟩
      generalize infN 1 = F at cF ⊢
      subst h8
      clear h3
      rcases hc with rfl | rfl
      all_goals
        go_enter Tryz.func71, Tryz.ntmps71
        go_wp2_with (first | (go_at_call 87; go_fit (cI _); rintro e w' ⟨rfl, rfl⟩) | (go_at_call 88; go_fit (cF _); rintro e w' ⟨rfl, rfl⟩))
        go_ret3
        exact ⟨rfl, rfl⟩
    · refine ⟨0, 0, false, fun w => ?_⟩
      have h3' : M < 3 := by omega
      have k1 : ((M : Int) == 3) = false := by rw [beq_eq_false_iff_ne]; omega
      have k2 : ((M : Int) == 8) = false := by rw [beq_eq_false_iff_ne]; omega
      have k3 : ¬ (3 < (M : Int)) := by omega
      clear h3 h8 hle
      rcases hc with rfl | rfl
      all_goals
        go_enter Tryz.func71, Tryz.ntmps71
        go_wp2_with (first | (go_at_call 87; go_fit (cI _); rintro e w' ⟨rfl, rfl⟩) | (go_at_call 88; go_fit (cF _); rintro e w' ⟨rfl, rfl⟩))
        go_ret3
        exact ⟨rfl, rfl⟩

set_option maxHeartbeats 1600000 in
theorem special_n (c : UInt8) (t : List UInt8) (hc : c = 110 ∨ c = 78) (hl : t.length + 1 ≤ 1000000000) : Spec71 (c :: t) := by
  have cI := cpl_calls (c :: t) [110, 97, 110] (by simpa using hl) (by simp)
  generalize cpl (c :: t) [110, 97, 110] = M at cI
  have cF := nan_gives
  by_cases h3 : M = 3
  · refine ⟨nanN, 3, true, fun w => ?_⟩
    generalize nanN = F at cF ⊢
    subst h3
    rcases hc with rfl | rfl
    all_goals
      go_enter Tryz.func71, Tryz.ntmps71
      go_wp2_with (first | (go_at_call 87; go_fit (cI _); rintro e w' ⟨rfl, rfl⟩) | (go_at_call 89; go_fit (cF _); rintro e w' ⟨rfl, rfl⟩))
      go_ret3
      exact ⟨rfl, rfl⟩
  · refine ⟨0, 0, false, fun w => ?_⟩
    rcases hc with rfl | rfl
    all_goals
      go_enter Tryz.func71, Tryz.ntmps71
      go_wp2_with (first | (go_at_call 87; go_fit (cI _); rintro e w' ⟨rfl, rfl⟩) | (go_at_call 89; go_fit (cF _); rintro e w' ⟨rfl, rfl⟩))
      go_ret3
      exact ⟨rfl, rfl⟩

theorem nat_ne {c d : UInt8} {k : Int} (h : c ≠ d) (hk : (d.toNat : Int) = k) : (c.toNat : Int) ≠ k := by
  intro e; exact h (UInt8.toNat_inj.1 (by omega))

set_option maxHeartbeats 1600000 in
theorem special_gives (l : List UInt8) (hl : l.length ≤ 1000000000) : Spec71 l := by
  cases l with
  | nil =>
    refine ⟨0, 0, false, fun w => ?_⟩
    go_enter Tryz.func71, Tryz.ntmps71
    go_wp2
    go_ret3
    exact ⟨rfl, rfl⟩
  | cons c t =>
    have hl' : t.length + 1 ≤ 1000000000 := by simpa using hl
    by_cases h1 : c = 43
    · exact special_sign c t (.inl h1) hl'
    by_cases h2 : c = 45
    · exact special_sign c t (.inr h2) hl'
    by_cases h3 : c = 105
    · exact special_i c t (.inl h3) hl'
    by_cases h4 : c = 73
    · exact special_i c t (.inr h4) hl'
    by_cases h5 : c = 110
    · exact special_n c t (.inl h5) hl'
    by_cases h6 : c = 78
    · exact special_n c t (.inr h6) hl'
    have g1 := ne_k (nat_ne (k := 43) h1 rfl)
    have g2 := ne_k (nat_ne (k := 45) h2 rfl)
    have g3 := ne_k (nat_ne (k := 105) h3 rfl)
    have g4 := ne_k (nat_ne (k := 73) h4 rfl)
    have g5 := ne_k (nat_ne (k := 110) h5 rfl)
    have g6 := ne_k (nat_ne (k := 78) h6 rfl)
    clear h1 h2 h3 h4 h5 h6
    refine ⟨0, 0, false, fun w => ?_⟩
    go_enter Tryz.func71, Tryz.ntmps71
    go_wp2
    go_ret3
    exact ⟨rfl, rfl⟩
end Go.Proofs.Qxb6606206aGreatDoor
