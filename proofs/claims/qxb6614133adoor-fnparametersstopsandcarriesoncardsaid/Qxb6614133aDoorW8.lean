import Derived.Test.Qxb6614133aDoorW7
import Derived.BigQuiet
import Derived.Deep.QuietTactic
set_option linter.unusedSimpArgs false
set_option linter.unusedVariables false
namespace Go.Proofs.Qxb6614133aDoor
open Go Go.RowKit
attribute [local go_sem] str_size str_get str_extract str_toList str_append

def TrimSaid : Prop := ∀ (l : List UInt8) (w : World), Calls Tryd.prog 8 #[.string (str l), .string ⟨#[32]⟩] w fun e w' => e = .returned (.string (str (l.dropWhile Sf.blank))) ∧ w' = w

set_option maxRecDepth 20000 in
set_option maxHeartbeats 800000 in
theorem zz_calls (hT : TrimSaid) (l : List UInt8) (w : World) (hl : l.length ≤ 1048576) :
    Calls Tryd.prog 5 #[.string (str l)] w fun e w' => e = .returned (.tuple #[.bool (Sf.P l).1, .string (str (Sf.P l).2)]) ∧ Below w.heap.size w w' := by
  have hP : Ps w.heap.size l (w.alloc (.cells #[.string (str l)] 27)) := ⟨by simp, by simp⟩
  have hc := params_calls hT w.heap.size l _ hl hP
  unfold Sf.P
  obtain ⟨r, hr⟩ : ∃ r, Sf.params (l.length + 1) l = r := ⟨_, rfl⟩
  rw [hr] at hc ⊢
  clear hr hT
  go_enter Tryd.func5, Tryd.ntmps5
  go_wp2_with fail
  refine hc.mono ?_
  rintro e w1 ⟨rfl, p1, q1⟩
  have hc1 := p1.cell
  have hz := q1.size
  simp at hz
  have hb : Below w.heap.size w w1 := ((Below.refl _ w).alloc (Nat.le_refl _) _).trans (q1.below (by simp))
  clear p1 q1 hc
  go_wp2_with fail
  go_quiet (fail)
  go_wp2
  go_ret2
  exact ⟨rfl, below_drewN hb _⟩

theorem trim_said : TrimSaid := fun l w => by
  have := Tryd.strings_TrimLeft_one (str l) 32 (by decide) w
  exact this

end Go.Proofs.Qxb6614133aDoor
