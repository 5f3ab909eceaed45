import Derived.Test.Qxb6609089aDoorW8
set_option linter.unusedSimpArgs false
set_option linter.unusedVariables false
namespace Go.Proofs.Qxb6609089aDoor
open Go Go.RowKit

def LawPost (w : World) (e : Ending) (w' : World) : Prop := e = .returned (.bool true) ∧ Below w.heap.size w w'

set_option maxHeartbeats 400000 in
theorem rd_big (p : Option Addr) (n c : Nat) (st en k : Int) (eof : Bool) (w : World) (hn : 1048576 < n) :
    Calls Tryd.prog 5 #[.slice p n c, .int .i64 st, .int .i64 en, .int .i64 k, .bool eof] w (LawPost w) := by
  go_enter Tryd.func5, Tryd.ntmps5
  go_wp2_with (go_at_call 11; go_fit (zzb_no p n c st en k eof _ hn); rintro e w' ⟨rfl, hw⟩; have hw' := hw.symm; subst hw'; clear hw)
  go_ret
  exact ⟨rfl, Below.refl _ _⟩

set_option maxHeartbeats 800000 in
theorem rd_out (p : Option Addr) (n c : Nat) (st en k : Int) (eof : Bool) (w : World) (hn : n ≤ 1048576) (h : ¬ (0 ≤ st ∧ st ≤ k ∧ k ≤ en ∧ en ≤ n)) :
    Calls Tryd.prog 5 #[.slice p n c, .int .i64 st, .int .i64 en, .int .i64 k, .bool eof] w (LawPost w) := by
  have d0 : ¬ ((n : Int) > 1048576) := by omega
  by_cases h1 : st < 0
  · go_enter Tryd.func5, Tryd.ntmps5
    go_wp2_with (go_at_call 11; go_fit (zzb_yes p n c st en k eof _ hn); rintro e w' ⟨rfl, hw⟩; have hw' := hw.symm; subst hw'; clear hw)
    go_ret
    exact ⟨rfl, Below.refl _ _⟩
  · have b1 : decide (st < 0) = false := by simpa using h1
    by_cases h2 : k < st
    · have b2 : decide (k < st) = true := by simpa using h2
      go_enter Tryd.func5, Tryd.ntmps5
      go_wp2_with (go_at_call 11; go_fit (zzb_yes p n c st en k eof _ hn); rintro e w' ⟨rfl, hw⟩; have hw' := hw.symm; subst hw'; clear hw)
      go_ret
      exact ⟨rfl, Below.refl _ _⟩
    · have b2 : decide (k < st) = false := by simpa using h2
      by_cases h3 : en < k
      · have b3 : decide (en < k) = true := by simpa using h3
        go_enter Tryd.func5, Tryd.ntmps5
        go_wp2_with (go_at_call 11; go_fit (zzb_yes p n c st en k eof _ hn); rintro e w' ⟨rfl, hw⟩; have hw' := hw.symm; subst hw'; clear hw)
        go_ret
        exact ⟨rfl, Below.refl _ _⟩
      · have b3 : decide (en < k) = false := by simpa using h3
        have h4 : (n : Int) < en := by omega
        have b4 : decide ((n : Int) < en) = true := by simpa using h4
        go_enter Tryd.func5, Tryd.ntmps5
        go_wp2_with (go_at_call 11; go_fit (zzb_yes p n c st en k eof _ hn); rintro e w' ⟨rfl, hw⟩; have hw' := hw.symm; subst hw'; clear hw)
        go_ret
        exact ⟨rfl, Below.refl _ _⟩

set_option maxHeartbeats 800000 in
theorem rd_mid (ab ao : Nat) (n c : Nat) (s e k : Nat) (x : Int) (eof : Bool) (w : World) (hn : n ≤ 1048576) (hsk : s ≤ k) (hke : k ≤ e) (hen : e ≤ n) (hks : ¬ k = s) (hcell : w.cell? ⟨ab, ao + (k - 1), none⟩ = some (.int .u8 x)) (hx : (x != 10) = true) :
    Calls Tryd.prog 5 #[.slice (some ⟨ab, ao, none⟩) n c, .int .i64 s, .int .i64 e, .int .i64 k, .bool eof] w (LawPost w) := by
  have d0 : ¬ ((n : Int) > 1048576) := by omega
  have b1 : decide ((s : Int) < 0) = false := by simp
  have b2 : decide ((k : Int) < s) = false := by simp; omega
  have b3 : decide ((e : Int) < k) = false := by simp; omega
  have b4 : decide ((n : Int) < e) = false := by simp; omega
  have b5 : ((k : Int) != (s : Int)) = true := by rw [bne_iff_ne]; omega
  obtain ⟨m, rfl⟩ : ∃ m, k = m + 1 := ⟨k - 1, by omega⟩
  simp only [Nat.add_sub_cancel] at hcell
  go_enter Tryd.func5, Tryd.ntmps5
  go_wp2_with (go_at_call 11; go_fit (zzb_yes _ n c s e _ eof _ hn); rintro e w' ⟨rfl, hw⟩; have hw' := hw.symm; subst hw'; clear hw)
  all_goals go_ret
  all_goals exact ⟨rfl, Below.refl _ _⟩

/-- What the clone leaves. -/
def ClonePost (l : List UInt8) (w : World) (e : Ending) (w' : World) : Prop := ∃ p n c, e = .returned (.slice p n c) ∧ Below w.heap.size w w' ∧ Kept w' (.slice p n c) l

theorem clone_calls (p : Option Addr) (c : Nat) (l : List UInt8) (w : World) (hl : l.length ≤ 1048576) (hp : p = none → l = []) (hA : 0 < l.length → ∃ ab ao, p = some ⟨ab, ao, none⟩ ∧ BAt w ab ao l) :
    Calls Tryd.prog 12 #[.slice p l.length c] w (ClonePost l w) := by
  cases p with
  | none =>
    refine (clone_nil l.length c w).mono fun e w' ⟨he, hw⟩ => ?_
    subst hw
    exact ⟨_, _, _, he, Below.refl _ _, .inl ⟨rfl, hp rfl⟩⟩
  | some a =>
    refine (clone_some a l.length c (nums l) w hl (nums_length l) (fun i hi => ?_)).mono fun e w' ⟨he, hb, hs, hc⟩ => ?_
    · obtain ⟨ab, ao, ha, hB⟩ := hA (by omega)
      cases ha
      rw [Go.WideShapes.add_plain]
      exact hB.ints i hi
    · refine ⟨_, _, _, he, hb, .inr ⟨w.heap.size, rfl, fun i hi => ?_, hs⟩⟩
      rw [Nat.zero_add, hc i hi, nums_getD]

/-- The four readings, one behind the other. -/
theorem four (v : Value) (l : List UInt8) (t : TypeId) (x : Value) (w : World) (hK : Kept w v l) (hE : Eof w t x) (hT : Tabs w) (hl : l.length ≤ 1048576) :
    ∀ w', Below w.heap.size w w' → ∀ (eof : Bool) (s e : Nat), s ≤ e → e ≤ l.length → Calls Tryd.prog 13 #[v, .int .i64 s, .int .i64 e, .bool eof, .int .i64 0, .slice none 0 0] w' (NewPost w' (rv l eof s e)) :=
  fun w' hb eof s e h1 h2 => new_calls v l eof s e t x w' (hK.below hb) (hE.below hb) (hT.below hb) h1 h2 hl

end Go.Proofs.Qxb6609089aDoor
