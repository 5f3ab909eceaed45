import Derived.Test.Qxb6614395aFmtW12
set_option linter.unusedSimpArgs false
set_option linter.unusedVariables false
namespace Go.Proofs.Qxb6614395aFmt
open Go Go.RowKit Go.Deep Go.Extern.Stop Go.Stop Go.Extern
attribute [local go_sem] str_size str_get str_extract str_toList str_append

/-- The bytes of a line's end. -/
def nlOf (l : List UInt8) : Nat := if l.getLast? = some 10 then 1 else 0
theorem nlOf_le (l : List UInt8) : nlOf l ≤ l.length := by
  unfold nlOf
  split
  · rename_i h
    cases l with
    | nil => simp at h
    | cons a t => simp
  · omega

set_option maxHeartbeats 400000 in
theorem nl_calls (w : World) (b o n cap : Nat) (l : List UInt8) (hn : l.length = n) (hn2 : n ≤ 1000000000) (h : Seg w b o l) :
    Calls Tryf.prog 53 #[.slice (some ⟨b, o, none⟩) n cap] w fun e w' => e = .returned (.int .i64 (nlOf l : Int)) ∧ w' = w := by
  by_cases hn0 : n = 0
  · subst hn0
    have hl : l = [] := List.eq_nil_of_length_eq_zero hn
    have hz : nlOf l = 0 := by rw [hl]; rfl
    rw [hz]
    clear hl hz
    go_enter Tryf.func53, Tryf.ntmps53
    go_wp2_with fail
    go_ret
    exact ⟨rfl, rfl⟩
  · have hc := h (n - 1) (by omega)
    have hg : l.getLast? = some (l[n - 1]'(by omega)) := getLast?_at l (n - 1) (by omega)
    have hnz : (0 : Int) < (n : Int) := by omega
    by_cases h10 : l[n - 1]'(by omega) = 10
    · rw [h10] at hc hg
      have hz : nlOf l = 1 := by unfold nlOf; rw [hg]; rfl
      rw [hz]
      clear hz hg h10 h
      go_enter Tryf.func53, Tryf.ntmps53
      go_wp2_with fail
      go_ret
      exact ⟨rfl, rfl⟩
    · have hz : nlOf l = 0 := by unfold nlOf; rw [hg, if_neg (by simpa using h10)]
      have hb : (((l[n - 1]'(by omega)).toNat : Int) == 10) = false := by
        rw [beq_eq_false_iff_ne]
        intro h'
        exact h10 (UInt8.toNat_inj.1 (by have : (10 : UInt8).toNat = 10 := rfl; omega))
      rw [hz]
      clear hz hg h10 h
      go_enter Tryf.func53, Tryf.ntmps53
      go_wp2_with fail
      go_ret
      exact ⟨rfl, rfl⟩

set_option maxHeartbeats 400000 in
theorem validRune_calls (w : World) : Calls Tryf.prog 70 #[.int .i32 44] w fun e w' => e = .returned (.bool true) ∧ w' = w := by
  go_enter Tryf.func70, Tryf.ntmps70
  go_wp2
  go_ret
  exact ⟨rfl, rfl⟩
set_option maxHeartbeats 400000 in
theorem validDelim_calls (w : World) : Calls Tryf.prog 50 #[.int .i32 44] w fun e w' => e = .returned (.bool true) ∧ w' = w := by
  go_enter Tryf.func50, Tryf.ntmps50
  go_wp2_with (go_at_call 70; go_fit (validRune_calls _); rintro e w' ⟨rfl, rfl⟩)
  go_ret
  exact ⟨rfl, rfl⟩
set_option maxHeartbeats 400000 in
theorem runeLen_calls (w : World) : Calls Tryf.prog 54 #[.int .i32 44] w fun e w' => e = .returned (.int .i64 1) ∧ w' = w := by
  go_enter Tryf.func54, Tryf.ntmps54
  go_wp2
  go_ret
  exact ⟨rfl, rfl⟩
set_option maxHeartbeats 400000 in
set_option maxRecDepth 20000 in
theorem indexRune_calls (w : World) (b o n cap : Nat) (l : List UInt8) (hn : l.length = n) (h : Seg w b o l) :
    Calls Tryf.prog 58 #[.slice (some ⟨b, o, none⟩) n cap, .int .i32 44] w fun e w' => e = .returned (.int .i64 (Lib.indexByte l 44)) ∧ w' = w := by
  have cI := index_calls w b o n cap l hn h 44
  rw [show ((44 : Int).toNat).toUInt8 = 44 by rfl] at cI
  go_enter Tryf.func58, Tryf.ntmps58
  go_wp2_with (go_at_call 30; go_fit cI; rintro e w' ⟨rfl, rfl⟩)
  go_ret
  exact ⟨rfl, rfl⟩
end Go.Proofs.Qxb6614395aFmt
