import Derived.Test.Qxb6614133aDoorW6
import Derived.Deep.LoopGhost
set_option linter.unusedSimpArgs false
set_option linter.unusedVariables false
namespace Go.Proofs.Qxb6614133aDoor
open Go Go.RowKit
attribute [local go_sem] str_size str_get str_extract str_toList str_append

/-- What 'parameters' leaves. -/
def ParPost (b : Nat) (r : Bool × List UInt8) (w : World) (e : Ending) (w' : World) : Prop := e = .returned (.bool r.1) ∧ Ps b r.2 w' ∧ Kp b w w'

set_option maxRecDepth 20000 in
set_option maxHeartbeats 800000 in
theorem params_calls (hT : ∀ (l : List UInt8) (w : World), Calls Tryd.prog 8 #[.string (str l), .string ⟨#[32]⟩] w fun e w' => e = .returned (.string (str (l.dropWhile Sf.blank))) ∧ w' = w)
    (b : Nat) (l : List UInt8) (w : World) (hl : l.length ≤ 1048576) (h : Ps b l w) :
    Calls Tryd.prog 6 #[.pointer (some ⟨b, 0, none⟩)] w (ParPost b (Sf.params (l.length + 1) l) w) := by
  go_enter Tryd.func6, Tryd.ntmps6
  go_wp2_with fail
  go_loopg [] (l.length + 1) (fun g wx => ∃ l', l'.length < g ∧ l'.length ≤ l.length ∧ Ps b l' wx ∧ Kp b w wx ∧ Hid (Sf.params g l' = Sf.params (l.length + 1) l))
  case atStart => exact ⟨l, by omega, by omega, h, Kp.refl b w, rfl⟩
  case round =>
    obtain ⟨l', hg, hll, hp, hk, hq⟩ := hrel
    obtain ⟨g', rfl⟩ : ∃ g', gk = g' + 1 := ⟨gk - 1, by omega⟩
    go_wp2_with fail
    refine (consume_at b l' 59 59 rfl _ hp).mono ?_
    rintro e w1 ⟨rfl, p1, q1⟩
    rcases Sf.consume_cases 59 l' with ⟨t, rfl, e⟩ | e
    · rw [e] at p1 ⊢
      have hc1 := p1.cell
      have hf1 := p1.free
      obtain ⟨t2, ht2⟩ : ∃ t2, t.dropWhile Sf.blank = t2 := ⟨_, rfl⟩
      obtain ⟨k1, l3, hk3⟩ : ∃ k1 l3, Sf.key t2 = (k1, l3) := ⟨_, _, rfl⟩
      obtain ⟨m1, l4, hm4⟩ : ∃ m1 l4, Sf.consume 61 l3 = (m1, l4) := ⟨_, _, rfl⟩
      obtain ⟨n1, l5, hn5⟩ : ∃ n1 l5, Sf.bare l4 = (n1, l5) := ⟨_, _, rfl⟩
      have z2 : t2.length ≤ t.length := by rw [← ht2]; exact (List.dropWhile_suffix _).length_le
      have z3 : l3.length ≤ t2.length := by have := (Sf.key_suffix t2).length_le; rw [hk3] at this; exact this
      have z4 : l4.length ≤ l3.length := by have := (Sf.consume_suffix 61 l3).length_le; rw [hm4] at this; exact this
      have z5 : l5.length ≤ l4.length := by have := (Sf.bare_suffix l4).length_le; rw [hn5] at this; exact this
      have zt : t.length < g' := by simp at hg; omega
      have ztl : t.length < l.length := by simp at hll; omega
      have hst : Hid (Sf.params (g' + 1) (59 :: t) = if k1 then (if m1 then (if n1 then Sf.params g' l5 else (false, l5)) else Sf.params g' l4) else (false, l3)) := show _ = _ by
        rw [Sf.params]
        simp only [e, if_true, ht2, hk3, hm4, hn5]
      have cT := fun w => hT t w
      rw [ht2] at cT
      have cK := fun w' h' => key_calls b t2 w' (by omega) h'
      rw [hk3] at cK
      have cE := fun w' h' => consume_at b l3 61 61 rfl w' h'
      rw [hm4] at cE
      have cB := fun w' h' => bare_calls b l4 w' (by omega) h'
      rw [hn5] at cB
      clear hT e ht2 hk3 hm4 hn5
      go_wp2_with fail
      refine (cT _).mono ?_
      rintro e w2 ⟨rfl, hw2⟩
      have hw2' := hw2.symm; subst hw2'
      go_wp2_with fail
      refine (cK _ (p1.set _)).mono ?_
      rintro e w3 ⟨s3, rfl, p3, q3⟩
      have K3 : Kp b w w3 := (hk.trans (q1.set _ _)).trans q3
      cases k1 with
      | false =>
        go_wp2_with fail
        go_ret
        rw [← hq.out, hst.out]
        exact ⟨rfl, p3, K3⟩
      | true =>
        go_wp2_with fail
        refine (cE _ p3).mono ?_
        rintro e w4 ⟨rfl, p4, q4⟩
        have K4 := K3.trans q4
        cases m1 with
        | false =>
          go_wp2_with fail
          go_roundg g'
          case measure => omega
          case rel => exact ⟨l4, by omega, by omega, p4, K4, show _ = _ by rw [← hq.out, hst.out]; rfl⟩
        | true =>
          go_wp2_with fail
          refine (cB _ p4).mono ?_
          rintro e w5 ⟨s0, s1, rfl, p5, q5⟩
          have K5 := K4.trans q5
          cases n1 with
          | false =>
            go_wp2_with fail
            go_ret
            rw [← hq.out, hst.out]
            exact ⟨rfl, p5, K5⟩
          | true =>
            go_wp2_with fail
            go_roundg g'
            case measure => omega
            case rel => exact ⟨l5, by omega, by omega, p5, K5, show _ = _ by rw [← hq.out, hst.out]; rfl⟩
    · rw [e] at p1 ⊢
      have hst : Hid (Sf.params (g' + 1) l' = (true, l')) := show _ = _ by
        rw [Sf.params]; simp [e]
      clear hT e
      go_wp2_with fail
      go_ret
      rw [← hq.out, hst.out]
      exact ⟨rfl, p1, hk.trans q1⟩

end Go.Proofs.Qxb6614133aDoor
