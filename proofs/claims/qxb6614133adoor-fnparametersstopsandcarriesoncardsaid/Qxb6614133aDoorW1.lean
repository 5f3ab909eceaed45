import Derived.Test.Qxb6614133aDoorChecked
import Derived.Test.Qxb6614133aDoorL1
import Derived.Test.Qxb6614133aDoorSh1
import Derived.WalkKit
import Derived.WalkSpells
import Derived.WalkLawsBesides
import Derived.Handy
set_option linter.unusedSimpArgs false
set_option linter.unusedVariables false
namespace Go.Proofs.Qxb6614133aDoor
open Go Go.RowKit

theorem ret_bool {a b : Bool} (h : a = b) : Ending.returned (.bool a) = .returned (.bool b) := by rw [h]

set_option maxHeartbeats 400000 in
theorem lower_calls (c : UInt8) (w : World) : Calls Tryd.prog 15 #[.int .u8 c.toNat] w fun e w' => e = .returned (.bool (Sf.lower c)) ∧ w' = w := by
  go_enter Tryd.func15, Tryd.ntmps15
  go_wp2
  all_goals go_ret
  all_goals exact ⟨ret_bool (by rw [Bool.eq_iff_iff]; simp [Sf.lower]; omega), rfl⟩

set_option maxHeartbeats 400000 in
theorem digit_calls (c : UInt8) (w : World) : Calls Tryd.prog 18 #[.int .u8 c.toNat] w fun e w' => e = .returned (.bool (Sf.digit c)) ∧ w' = w := by
  go_enter Tryd.func18, Tryd.ntmps18
  go_wp2
  all_goals go_ret
  all_goals exact ⟨ret_bool (by rw [Bool.eq_iff_iff]; simp [Sf.digit]; omega), rfl⟩

set_option maxHeartbeats 400000 in
theorem alpha_calls (c : UInt8) (w : World) : Calls Tryd.prog 22 #[.int .u8 c.toNat] w fun e w' => e = .returned (.bool (Sf.alpha c)) ∧ w' = w := by
  go_enter Tryd.func22, Tryd.ntmps22
  go_wp2_with (go_at_call 15; refine (lower_calls c _).mono ?_; rintro e w' ⟨rfl, rfl⟩)
  all_goals go_ret
  all_goals exact ⟨ret_bool (by rw [Bool.eq_iff_iff]; simp [Sf.alpha, *]; try omega), rfl⟩

theorem eq_u8 (c d : UInt8) (k : Int) (hk : (d.toNat : Int) = k) : ((c.toNat : Int) = k) = (c = d) := by
  rw [← hk]
  apply propext
  constructor
  · intro h; exact UInt8.toNat_inj.1 (by omega)
  · intro h; rw [h]
theorem beq_u8 (c d : UInt8) (k : Int) (hk : (d.toNat : Int) = k) : ((c.toNat : Int) == k) = (c == d) := by
  rw [Bool.eq_iff_iff, beq_iff_eq, beq_iff_eq, eq_u8 c d k hk]

theorem byte_back (c : UInt8) : ((c.toNat : Int).toNat).toUInt8 = c := by simp

theorem index_ge (l : List UInt8) (c : UInt8) : decide (0 ≤ Lib.indexByte l c) = l.contains c := by
  induction l with
  | nil => rfl
  | cons b l ih =>
    have hg := Lib.indexByte_ge l c
    rw [Lib.indexByte, List.contains_cons]
    by_cases h : b = c
    · subst h; simp
    · rw [if_neg (by simpa using h)]
      have h2 : (c == b) = false := by simpa using fun e => h e.symm
      rw [h2, Bool.false_or, ← ih]
      split
      · rename_i h1
        have : Lib.indexByte l c = -1 := by simpa using h1
        rw [this]
      · rw [Bool.eq_iff_iff]; simp
        rename_i h1
        have : ¬ Lib.indexByte l c = -1 := by simpa using h1
        omega

theorem index_calls (s : List UInt8) (c : UInt8) (w : World) : Calls Tryd.prog 19 #[.string ⟨s.toArray⟩, .int .u8 c.toNat] w fun e w' => ∃ k : Int, e = .returned (.int .i64 k) ∧ decide (0 ≤ k) = s.contains c ∧ w' = w := by
  refine (Tryd.strings_IndexByte ⟨s.toArray⟩ c.toNat w).mono fun e w' ⟨he, hw⟩ => ⟨_, he, ?_, hw⟩
  rw [byte_back]
  exact index_ge _ _

set_option maxHeartbeats 400000 in
theorem keyC_calls (c : UInt8) (w : World) : Calls Tryd.prog 17 #[.int .u8 c.toNat] w fun e w' => e = .returned (.bool (Sf.keyC c)) ∧ w' = w := by
  have hI : ∀ w, Calls Tryd.prog 19 #[.string ⟨#[95, 45, 46, 42]⟩, .int .u8 c.toNat] w _ := fun w => index_calls [95, 45, 46, 42] c w
  go_enter Tryd.func17, Tryd.ntmps17
  go_wp2_with (first
    | (go_at_call 15; refine (lower_calls c _).mono ?_; rintro e w' ⟨rfl, rfl⟩)
    | (go_at_call 18; refine (digit_calls c _).mono ?_; rintro e w' ⟨rfl, rfl⟩)
    | (go_at_call 19; refine (hI _).mono ?_; rintro e w' ⟨k, rfl, hk, rfl⟩))
  all_goals go_ret
  all_goals exact ⟨ret_bool (by simp [Sf.keyC, *]), rfl⟩

set_option maxHeartbeats 400000 in
theorem tchar_calls (c : UInt8) (w : World) : Calls Tryd.prog 24 #[.int .u8 c.toNat] w fun e w' => e = .returned (.bool (Sf.alpha c || Sf.digit c || [33, 35, 36, 37, 38, 39, 42, 43, 45, 46, 94, 95, 96, 124, 126].contains c)) ∧ w' = w := by
  have hI : ∀ w, Calls Tryd.prog 19 #[.string ⟨#[33, 35, 36, 37, 38, 39, 42, 43, 45, 46, 94, 95, 96, 124, 126]⟩, .int .u8 c.toNat] w _ := fun w => index_calls [33, 35, 36, 37, 38, 39, 42, 43, 45, 46, 94, 95, 96, 124, 126] c w
  go_enter Tryd.func24, Tryd.ntmps24
  go_wp2_with (first
    | (go_at_call 22; refine (alpha_calls c _).mono ?_; rintro e w' ⟨rfl, rfl⟩)
    | (go_at_call 18; refine (digit_calls c _).mono ?_; rintro e w' ⟨rfl, rfl⟩)
    | (go_at_call 19; refine (hI _).mono ?_; rintro e w' ⟨k, rfl, hk, rfl⟩))
  all_goals go_ret
  all_goals exact ⟨ret_bool (by simp [*]), rfl⟩

set_option maxHeartbeats 400000 in
theorem tokC_calls (c : UInt8) (w : World) : Calls Tryd.prog 23 #[.int .u8 c.toNat] w fun e w' => e = .returned (.bool (Sf.tokC c)) ∧ w' = w := by
  obtain ⟨b, hb⟩ : ∃ b, (Sf.alpha c || Sf.digit c || [33, 35, 36, 37, 38, 39, 42, 43, 45, 46, 94, 95, 96, 124, 126].contains c) = b := ⟨_, rfl⟩
  have hT := fun w => tchar_calls c w
  rw [hb] at hT
  have HB : Hid ((Sf.alpha c || Sf.digit c || [33, 35, 36, 37, 38, 39, 42, 43, 45, 46, 94, 95, 96, 124, 126].contains c) = b) := hb
  clear hb
  go_enter Tryd.func23, Tryd.ntmps23
  go_wp2_with (go_at_call 24; refine (hT _).mono ?_; rintro e w' ⟨rfl, rfl⟩)
  all_goals go_ret
  all_goals refine ⟨ret_bool ?_, rfl⟩
  all_goals (unfold Sf.tokC; rw [HB.out])
  all_goals simp_all [beq_u8 c 58 58 rfl, beq_u8 c 47 47 rfl, eq_u8 c 58 58 rfl, eq_u8 c 47 47 rfl]

set_option maxHeartbeats 400000 in
theorem b64C_calls (c : UInt8) (w : World) : Calls Tryd.prog 25 #[.int .u8 c.toNat] w fun e w' => e = .returned (.bool (Sf.b64C c)) ∧ w' = w := by
  go_enter Tryd.func25, Tryd.ntmps25
  go_wp2_with (first
    | (go_at_call 22; refine (alpha_calls c _).mono ?_; rintro e w' ⟨rfl, rfl⟩)
    | (go_at_call 18; refine (digit_calls c _).mono ?_; rintro e w' ⟨rfl, rfl⟩))
  all_goals go_ret
  all_goals refine ⟨ret_bool ?_, rfl⟩
  all_goals simp_all [Sf.b64C, beq_u8 c 43 43 rfl, beq_u8 c 47 47 rfl, beq_u8 c 61 61 rfl, eq_u8 c 43 43 rfl, eq_u8 c 47 47 rfl, eq_u8 c 61 61 rfl]

end Go.Proofs.Qxb6614133aDoor
