import Derived.Test.Qxb6606206aGreatDoorW5
import Derived.Test.Qxb6606206aGreatDoorL7
import Derived.WalkMore
import Derived.Laws.RangeString
import Derived.Laws.BitsAllLaws
set_option linter.unusedSimpArgs false
set_option linter.unusedVariables false
namespace Go.Proofs.Qxb6606206aGreatDoor
open Go Go.RowKit
attribute [local go_sem] str_size str_get str_extract str_toList str_append

def EqP (w : World) (b : Bool) (e : Ending) (w' : World) : Prop := e = .returned (.bool b) ∧ Below w.heap.size w w'

theorem or113 (c : UInt8) (h : c.toNat < 128) : bits .or .u8 (c.toNat : Int) 113 < 128 := by
  rw [u8_or _ _ (by omega) (by omega) (by omega) (by omega)]
  have : (c.toNat ||| 113) < 2 ^ 7 := Nat.or_lt_two_pow (by omega) (by decide)
  simp only [Int.toNat_natCast]
  have e : (113 : Int).toNat = 113 := rfl
  rw [e]
  omega
theorem isQ_one (c : UInt8) (t : List UInt8) : isQ (c :: t) = (decide (c = 113 ∨ c = 81) && t.isEmpty) := by
  unfold isQ
  cases t with
  | nil => simp; rfl
  | cons a b => simp

set_option maxHeartbeats 3200000 in
set_option maxRecDepth 20000 in
theorem fold_nil (w : World) : Calls Tryz.prog 21 #[.string (str []), .string (str [113])] w (EqP w false) := by
  go_enter Tryz.func21, Tryz.ntmps21
  go_wp2_with fail
  go_step3
  go_wp2_with fail
  go_loopw [5] (fun v5 wr => v5 = .int .i64 0 ∧ wr = w) (fun _ _ => 0)
  case atStart => exact ⟨rfl, rfl⟩
  case round =>
    obtain ⟨rfl, hwr⟩ := hrel
    have hwr' := hwr.symm
    subst hwr'
    go_wp2_with fail
    try simp only [Exit.noGoto_ret]
    go_ret
    exact ⟨rfl, Below.refl _ _⟩

set_option maxHeartbeats 6400000 in
set_option maxRecDepth 20000 in
theorem fold_ascii (c : UInt8) (t : List UInt8) (hc : c.toNat < 128) (hl : t.length + 1 ≤ 1000000000) (w : World) : Calls Tryz.prog 21 #[.string (str (c :: t)), .string (str [113])] w (EqP w (isQ (c :: t))) := by
  have hmin : ∀ (ts : Array TypeId) (ty : TypeId) (w : World), (Builtin.min_ ts ty #[.int .i64 ((t.length : Int) + 1), .int .i64 1]).run Tryz.prog w = .ok (.int .i64 1) w := fun ts ty w => by
    rw [run_min_int2]
    congr 2
    split <;> omega
  have hor := or113 c hc
  have hor' : ¬ (bits .or .u8 (c.toNat : Int) 113 ≥ 128) := by omega
  have HQ := hid_of (isQ_one c t)
  obtain ⟨R, hR⟩ : ∃ R, isQ (c :: t) = R := ⟨_, rfl⟩
  rw [hR] at HQ
  rw [hR]
  clear hR
  go_enter Tryz.func21, Tryz.ntmps21
  go_wp2_with fail
  go_step3
  go_wp2_with fail
  go_loopw [5] (fun v5 wr => ∃ i : Nat, v5 = .int .i64 i ∧ wr = w ∧ (i = 0 ∨ (i = 1 ∧ ((c.toNat : Int) = 113 ∨ (c.toNat : Int) = 81)))) (fun vi _ => 1 - (intOf vi).toNat)
  case atStart => exact ⟨0, rfl, rfl, .inl rfl⟩
  case round =>
    obtain ⟨i, rfl, hwr, hi⟩ := hrel
    have hwr' := hwr.symm
    subst hwr'
    clear hwr
    rcases hi with rfl | ⟨rfl, hcc⟩
    · by_cases h1 : (c.toNat : Int) = 113
      · go_wp2_with fail
        exact ⟨⟨1, rfl, by trivial, .inr ⟨rfl, .inl h1⟩⟩, by simp [intOf]⟩
      · have h1' : ((113 : Int) == (c.toNat : Int)) = false := by rw [beq_eq_false_iff_ne]; omega
        by_cases h2 : (c.toNat : Int) = 81
        · go_wp2_with fail
          exact ⟨⟨1, rfl, by trivial, .inr ⟨rfl, .inr h2⟩⟩, by simp [intOf]⟩
        · have hr : Hid (R = false) := by
            show _ = _
            rw [HQ.out]
            have : ¬ (c = 113 ∨ c = 81) := by
              rintro (h | h)
              · exact h1 (by rw [h]; rfl)
              · exact h2 (by rw [h]; rfl)
            simp [this]
          by_cases h3 : (113 : Int) < (c.toNat : Int)
          · go_wp2_with fail
            all_goals
              try simp only [Exit.noGoto_ret]
              go_ret
              rw [hr.out]
              exact ⟨rfl, Below.refl _ _⟩
          · go_wp2_with fail
            all_goals
              try simp only [Exit.noGoto_ret]
              go_ret
              rw [hr.out]
              exact ⟨rfl, Below.refl _ _⟩
    · have hr : Hid (R = t.isEmpty) := by
        show _ = _
        rw [HQ.out]
        have : c = 113 ∨ c = 81 := by
          rcases hcc with h | h
          · exact .inl (UInt8.toNat_inj.1 (by have e : (113 : UInt8).toNat = 113 := rfl; omega))
          · exact .inr (UInt8.toNat_inj.1 (by have e : (81 : UInt8).toNat = 81 := rfl; omega))
        simp [this]
      go_wp2_with fail
      try simp only [Exit.noGoto_ret]
      go_ret
      refine ⟨?_, Below.refl _ _⟩
      rw [hr.out]
      cases t with
      | nil => simp
      | cons a b => simp; omega
end Go.Proofs.Qxb6606206aGreatDoor
