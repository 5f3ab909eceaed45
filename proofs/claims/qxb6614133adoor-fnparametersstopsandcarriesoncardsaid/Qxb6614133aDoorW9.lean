import Derived.Test.Qxb6614133aDoorW8
set_option linter.unusedSimpArgs false
set_option linter.unusedVariables false
namespace Go.Proofs.Qxb6614133aDoor
open Go Go.RowKit
attribute [local go_sem] str_size str_get str_extract str_toList str_append

theorem opens (b : List UInt8) (h1 : 0 < b.length) (h2 : ((b[0].toNat : Int) == 59) = true) : ∃ z, b = 59 :: z := by
  cases b with
  | nil => simp at h1
  | cons c t =>
    rw [List.getElem_cons_zero, beq_u8 c 59 59 rfl] at h2
    exact ⟨t, by rw [show c = 59 by simpa using h2]⟩

set_option maxHeartbeats 400000 in
theorem zzb_calls (a b : List UInt8) (w : World) (ha : a.length ≤ 9223372036854775807) (hb : b.length ≤ 9223372036854775807) :
    Calls Tryd.prog 4 #[.string (str a), .string (str b)] w fun e w' => e = .returned (.bool (decide (a.length ≤ 1048576 ∧ b.length ≤ 1048576 ∧ a.length + b.length ≤ 1048576))) ∧ w' = w := by
  go_enter Tryd.func4, Tryd.ntmps4
  go_wp2
  all_goals go_ret
  all_goals exact ⟨ret_bool (by rw [Bool.eq_iff_iff]; simp; omega), rfl⟩

theorem P_suffix (a : List UInt8) : (Sf.P a).2.length ≤ a.length ∧ a.drop (a.length - (Sf.P a).2.length) = (Sf.P a).2 := by
  have h := Sf.params_suffix (a.length + 1) a
  refine ⟨h.length_le, ?_⟩
  exact (List.suffix_iff_eq_drop.1 h).symm

theorem P_plain (a : List UInt8) (h : ∀ t, a ≠ 59 :: t) : Sf.P a = (true, a) := by
  unfold Sf.P
  rcases Sf.consume_cases 59 a with ⟨t, e, _⟩ | e
  · exact absurd e (h t)
  · rw [Sf.params]; simp [e]

theorem P_stop {a r : List UInt8} (h : Sf.P a = (true, r)) (z : List UInt8) : r ≠ 59 :: z := Sf.params_stop (by omega) h z
theorem P_go {a r : List UInt8} (b : List UInt8) (h : Sf.P a = (true, r)) (hr : r ≠ []) : Sf.P (a ++ b) = (true, r ++ b) :=
  (Sf.params_append (a.length + 1) ((a ++ b).length + 1) a r b (by omega) (by omega) h).1 hr
theorem P_on {a : List UInt8} (b z : List UInt8) (h : Sf.P a = (true, [])) (hb : b = 59 :: z) : Sf.P (a ++ b) = Sf.P b := by
  have h1 := (Sf.params_append (a.length + 1) ((a ++ b).length + 1) a [] b (by omega) (by omega) h).2 rfl ⟨z, hb⟩
  unfold Sf.P
  rw [h1]
  exact Sf.params_more _ _ _ (by simp; omega) (by omega)

/-- The law's walk: what the three readings gave is handed in; the tests are decided ahead. -/
def LawPost (w : World) (e : Ending) (w' : World) : Prop := e = .returned (.bool true) ∧ Below w.heap.size w w'
def ZbSaid (a b : List UInt8) (z : Bool) : Prop := ∀ w, Calls Tryd.prog 4 #[.string (str a), .string (str b)] w fun e w' => e = .returned (.bool z) ∧ w' = w
def ZzSaid (a : List UInt8) (ok : Bool) (r : List UInt8) : Prop := ∀ w, Calls Tryd.prog 5 #[.string (str a)] w fun e w' => e = .returned (.tuple #[.bool ok, .string (str r)]) ∧ Below w.heap.size w w'

set_option maxHeartbeats 400000 in
theorem law_not (a b : List UInt8) (w : World) (hz : ZbSaid a b false) : Calls Tryd.prog 3 #[.string (str a), .string (str b)] w (LawPost w) := by
  go_enter Tryd.func3, Tryd.ntmps3
  go_wp2_with (go_at_call 4; go_fit (hz _); rintro e w' ⟨rfl, rfl⟩)
  go_ret
  exact ⟨rfl, Below.refl _ _⟩

set_option maxHeartbeats 400000 in
theorem law_long (a b : List UInt8) (w : World) (hz : ZbSaid a b true) (h : 524288 < a.length ∨ (a.length ≤ 524288 ∧ 524288 < b.length)) : Calls Tryd.prog 3 #[.string (str a), .string (str b)] w (LawPost w) := by
  rcases h with h | ⟨h1, h2⟩
  · have d1 : decide (524288 < (a.length : Int)) = true := by simp; omega
    go_enter Tryd.func3, Tryd.ntmps3
    go_wp2_with (go_at_call 4; go_fit (hz _); rintro e w' ⟨rfl, rfl⟩)
    go_ret
    exact ⟨rfl, Below.refl _ _⟩
  · have d1 : decide (524288 < (a.length : Int)) = false := by simp; omega
    have d2 : decide (524288 < (b.length : Int)) = true := by simp; omega
    go_enter Tryd.func3, Tryd.ntmps3
    go_wp2_with (go_at_call 4; go_fit (hz _); rintro e w' ⟨rfl, rfl⟩)
    go_ret
    exact ⟨rfl, Below.refl _ _⟩

set_option maxRecDepth 20000 in
set_option maxHeartbeats 1600000 in
theorem law_nil (b : List UInt8) (w : World) (hb : b.length ≤ 524288) (ok2 okY : Bool) (r2 rY : List UInt8) (hz : ZbSaid [] b true) (cA : ZzSaid [] true []) (cAB : ZzSaid b ok2 r2) (cB : ZzSaid b okY rY) (h1 : ok2 = okY) (h2 : r2 = rY) :
    Calls Tryd.prog 3 #[.string (str []), .string (str b)] w (LawPost w) := by
  subst h1; subst h2
  have d2 : decide (524288 < (b.length : Int)) = false := by simp; omega
  go_enter Tryd.func3, Tryd.ntmps3
  go_wp2_with (go_at_call 4; go_fit (hz _); rintro e w' ⟨rfl, rfl⟩)
  refine (cA _).mono ?_
  rintro e w1 ⟨rfl, b1⟩
  go_wp2_with fail
  refine (cAB _).mono ?_
  rintro e w2 ⟨rfl, b2⟩
  go_wp2_with fail
  refine (cB _).mono ?_
  rintro e w3 ⟨rfl, b3⟩
  have bb : Below _ _ w3 := (b1.trans (b2.mono b1.size)).trans (b3.mono (Nat.le_trans b1.size b2.size))
  clear b1 b2 b3 cA cAB cB hz
  go_wp2_with fail
  all_goals go_ret
  all_goals exact ⟨ret_bool (by simp), bb⟩

set_option maxRecDepth 20000 in
set_option maxHeartbeats 1600000 in
theorem law_plain (c : UInt8) (t b : List UInt8) (w : World) (hc : ¬ c = 59) (ha : (c :: t).length ≤ 524288) (hb : b.length ≤ 524288) (okY : Bool) (rY : List UInt8) (hz : ZbSaid (c :: t) b true) (cA : ZzSaid (c :: t) true (c :: t)) (cAB : ZzSaid (c :: t ++ b) true (c :: t ++ b)) (cB : ZzSaid b okY rY) :
    Calls Tryd.prog 3 #[.string (str (c :: t)), .string (str b)] w (LawPost w) := by
  rw [List.length_cons] at ha
  have d1 : decide (524288 < (t.length : Int) + 1) = false := by simp; omega
  have d2 : decide (524288 < (b.length : Int)) = false := by simp; omega
  have hc' : ((c.toNat : Int) != 59) = true := by rw [bne, beq_u8 c 59 59 rfl]; simp [hc]
  clear hc
  go_enter Tryd.func3, Tryd.ntmps3
  go_wp2_with (go_at_call 4; go_fit (hz _); rintro e w' ⟨rfl, rfl⟩)
  refine (cA _).mono ?_
  rintro e w1 ⟨rfl, b1⟩
  go_wp2_with fail
  refine (cAB _).mono ?_
  rintro e w2 ⟨rfl, b2⟩
  go_wp2_with fail
  refine (cB _).mono ?_
  rintro e w3 ⟨rfl, b3⟩
  have bb : Below _ _ w3 := (b1.trans (b2.mono b1.size)).trans (b3.mono (Nat.le_trans b1.size b2.size))
  clear b1 b2 b3 cA cAB cB hz
  go_wp2_with fail
  all_goals go_ret
  all_goals exact ⟨ret_bool (by simp), bb⟩

set_option maxRecDepth 20000 in
set_option maxHeartbeats 1600000 in
theorem law_fails (a b r : List UInt8) (w : World) (h0 : 0 < a.length) (h59 : a[0] = 59) (ha : a.length ≤ 524288) (hb : b.length ≤ 524288) (ok2 okY : Bool) (r2 rY : List UInt8) (hr : r.length ≤ a.length) (hd : a.drop (a.length - r.length) = r)
    (hz : ZbSaid a b true) (cA : ZzSaid a false r) (cAB : ZzSaid (a ++ b) ok2 r2) (cB : ZzSaid b okY rY) :
    Calls Tryd.prog 3 #[.string (str a), .string (str b)] w (LawPost w) := by
  have d1 : decide (524288 < (a.length : Int)) = false := by simp; omega
  have d2 : decide (524288 < (b.length : Int)) = false := by simp; omega
  have d3 : decide (a.length < r.length) = false := by simp; omega
  have d4 : ((a.length : Int) == 0) = false := by simp; intro e; rw [e] at h0; simp at h0
  have hc' : ((a[0].toNat : Int) != 59) = false := by rw [bne, beq_u8 a[0] 59 59 rfl]; simp [h59]
  clear h59
  go_enter Tryd.func3, Tryd.ntmps3
  go_wp2_with (go_at_call 4; go_fit (hz _); rintro e w' ⟨rfl, rfl⟩)
  refine (cA _).mono ?_
  rintro e w1 ⟨rfl, b1⟩
  go_wp2_with fail
  refine (cAB _).mono ?_
  rintro e w2 ⟨rfl, b2⟩
  go_wp2_with fail
  refine (cB _).mono ?_
  rintro e w3 ⟨rfl, b3⟩
  have bb : Below _ _ w3 := (b1.trans (b2.mono b1.size)).trans (b3.mono (Nat.le_trans b1.size b2.size))
  clear b1 b2 b3 cA cAB cB hz
  go_wp2_with fail
  all_goals go_ret
  all_goals exact ⟨ret_bool (by simp), bb⟩

set_option maxRecDepth 20000 in
set_option maxHeartbeats 1600000 in
theorem law_early (a b : List UInt8) (d : UInt8) (u : List UInt8) (w : World) (h0 : 0 < a.length) (h59 : a[0] = 59) (ha : a.length ≤ 524288) (hb : b.length ≤ 524288) (okY : Bool) (rY : List UInt8) (hr : (d :: u).length ≤ a.length) (hd : a.drop (a.length - (u.length + 1)) = d :: u) (hd59 : ¬ d = 59)
    (hz : ZbSaid a b true) (cA : ZzSaid a true (d :: u)) (cAB : ZzSaid (a ++ b) true (d :: u ++ b)) (cB : ZzSaid b okY rY) :
    Calls Tryd.prog 3 #[.string (str a), .string (str b)] w (LawPost w) := by
  rw [List.length_cons] at hr
  have d1 : decide (524288 < (a.length : Int)) = false := by simp; omega
  have d2 : decide (524288 < (b.length : Int)) = false := by simp; omega
  have d4 : ((a.length : Int) == 0) = false := by simp; intro e; rw [e] at h0; simp at h0
  have hc' : ((a[0].toNat : Int) != 59) = false := by rw [bne, beq_u8 a[0] 59 59 rfl]; simp [h59]
  have d3 : decide (a.length < u.length + 1) = false := by simp; omega
  have hc2 : ((d.toNat : Int) != 59) = true := by rw [bne, beq_u8 d 59 59 rfl]; simp [hd59]
  clear h59 hd59
  go_enter Tryd.func3, Tryd.ntmps3
  go_wp2_with (go_at_call 4; go_fit (hz _); rintro e w' ⟨rfl, rfl⟩)
  refine (cA _).mono ?_
  rintro e w1 ⟨rfl, b1⟩
  go_wp2_with fail
  refine (cAB _).mono ?_
  rintro e w2 ⟨rfl, b2⟩
  go_wp2_with fail
  refine (cB _).mono ?_
  rintro e w3 ⟨rfl, b3⟩
  have bb : Below _ _ w3 := (b1.trans (b2.mono b1.size)).trans (b3.mono (Nat.le_trans b1.size b2.size))
  clear b1 b2 b3 cA cAB cB hz
  go_wp2_with fail
  all_goals go_ret
  all_goals exact ⟨ret_bool (by simp), bb⟩

set_option maxRecDepth 20000 in
set_option maxHeartbeats 1600000 in
theorem law_whole (a b : List UInt8) (w : World) (h0 : 0 < a.length) (h59 : a[0] = 59) (ha : a.length ≤ 524288) (hb : b.length ≤ 524288) (ok2 okY : Bool) (r2 rY : List UInt8) (hon : (∃ z, b = 59 :: z) → ok2 = okY ∧ r2 = rY)
    (hz : ZbSaid a b true) (cA : ZzSaid a true []) (cAB : ZzSaid (a ++ b) ok2 r2) (cB : ZzSaid b okY rY) :
    Calls Tryd.prog 3 #[.string (str a), .string (str b)] w (LawPost w) := by
  have d1 : decide (524288 < (a.length : Int)) = false := by simp; omega
  have d2 : decide (524288 < (b.length : Int)) = false := by simp; omega
  have d4 : ((a.length : Int) == 0) = false := by simp; intro e; rw [e] at h0; simp at h0
  have hc' : ((a[0].toNat : Int) != 59) = false := by rw [bne, beq_u8 a[0] 59 59 rfl]; simp [h59]
  have HON : Hid ((∃ z, b = 59 :: z) → ok2 = okY ∧ r2 = rY) := hon
  clear h59 hon
  go_enter Tryd.func3, Tryd.ntmps3
  go_wp2_with (go_at_call 4; go_fit (hz _); rintro e w' ⟨rfl, rfl⟩)
  refine (cA _).mono ?_
  rintro e w1 ⟨rfl, b1⟩
  go_wp2_with fail
  refine (cAB _).mono ?_
  rintro e w2 ⟨rfl, b2⟩
  go_wp2_with fail
  refine (cB _).mono ?_
  rintro e w3 ⟨rfl, b3⟩
  have bb : Below _ _ w3 := (b1.trans (b2.mono b1.size)).trans (b3.mono (Nat.le_trans b1.size b2.size))
  clear b1 b2 b3 cA cAB cB hz
  go_wp2_with fail
  · have h1 : 0 < b.length := by assumption
    have h2 : ((b[0].toNat : Int) == 59) = true := by assumption
    obtain ⟨e1, e2⟩ := HON.out (opens b h1 h2)
    go_ret
    exact ⟨ret_bool (by simp [e2]), bb⟩
  · have h1 : 0 < b.length := by assumption
    have h2 : ((b[0].toNat : Int) == 59) = true := by assumption
    have h3 : ¬ ok2 = okY := by assumption
    exact absurd (HON.out (opens b h1 h2)).1 h3
  · go_ret
    exact ⟨rfl, bb⟩
  · go_ret
    exact ⟨rfl, bb⟩

theorem zzb_one (a b : List UInt8) (ha : a.length ≤ 9223372036854775807) (hb : b.length ≤ 9223372036854775807) : ∃ z, ZbSaid a b z := ⟨_, fun w => zzb_calls a b w ha hb⟩

theorem law_calls (a b : List UInt8) (w : World) (hal : a.length ≤ 9223372036854775807) (hbl : b.length ≤ 9223372036854775807) : Calls Tryd.prog 3 #[.string (str a), .string (str b)] w (LawPost w) := by
  obtain ⟨z, hz⟩ : ∃ z, ZbSaid a b z := zzb_one a b hal hbl
  cases z with
  | false => exact law_not a b w hz
  | true =>
    by_cases hl : 524288 < a.length ∨ (a.length ≤ 524288 ∧ 524288 < b.length)
    · exact law_long a b w hz hl
    · have ha : a.length ≤ 524288 := by omega
      have hb : b.length ≤ 524288 := by omega
      clear hl
      have cA : ZzSaid a (Sf.P a).1 (Sf.P a).2 := fun w => zz_calls trim_said a w (by omega)
      have cAB : ZzSaid (a ++ b) (Sf.P (a ++ b)).1 (Sf.P (a ++ b)).2 := fun w => zz_calls trim_said (a ++ b) w (by simp; omega)
      have cB : ZzSaid b (Sf.P b).1 (Sf.P b).2 := fun w => zz_calls trim_said b w (by omega)
      obtain ⟨hsl, hsd⟩ := P_suffix a
      cases a with
      | nil =>
        have e : Sf.P [] = (true, []) := P_plain [] (by simp)
        rw [e] at cA
        exact law_nil b w hb _ _ _ _ hz cA cAB cB rfl rfl
      | cons c t =>
        by_cases hc : c = 59
        · subst hc
          obtain ⟨ok, r, hP⟩ : ∃ ok r, Sf.P (59 :: t) = (ok, r) := ⟨_, _, rfl⟩
          rw [hP] at cA hsl hsd
          simp only at cA hsl hsd
          cases ok with
          | false => exact law_fails (59 :: t) b r w (by simp) rfl ha hb _ _ _ _ hsl hsd hz cA cAB cB
          | true =>
            cases r with
            | nil =>
              refine law_whole (59 :: t) b w (by simp) rfl ha hb _ _ _ _ (fun ⟨y, hy⟩ => ?_) hz cA cAB cB
              rw [P_on b y hP hy]
              exact ⟨rfl, rfl⟩
            | cons d u =>
              have e := P_go b hP (by simp)
              rw [e] at cAB
              exact law_early (59 :: t) b d u w (by simp) rfl ha hb _ _ hsl hsd (fun hd => P_stop hP u (by rw [hd])) hz cA cAB cB
        · have e1 : Sf.P (c :: t) = (true, c :: t) := P_plain _ (fun y hy => hc (by cases hy; rfl))
          have e2 : Sf.P (c :: t ++ b) = (true, c :: t ++ b) := P_plain _ (fun y hy => hc (by rw [List.cons_append] at hy; cases hy; rfl))
          rw [e1] at cA
          rw [e2] at cAB
          exact law_plain c t b w hc ha hb _ _ hz cA cAB cB

end Go.Proofs.Qxb6614133aDoor
