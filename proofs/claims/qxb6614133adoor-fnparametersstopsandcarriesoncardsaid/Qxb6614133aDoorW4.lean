import Derived.Test.Qxb6614133aDoorW3
set_option linter.unusedSimpArgs false
set_option linter.unusedVariables false
namespace Go.Proofs.Qxb6614133aDoor
open Go Go.RowKit
attribute [local go_sem] str_size str_get str_extract str_toList str_append

theorem qs_cons (c : UInt8) (t : List UInt8) (h1 : ¬ c = 92) : Sf.qs (c :: t) = if c = 34 then some t else if c.toNat < 32 ∨ 126 < c.toNat then none else Sf.qs t := by
  cases t with
  | nil => simp only [Sf.qs]; split <;> simp
  | cons d u => simp only [Sf.qs]; rw [if_neg h1]
theorem qs_bs (d : UInt8) (u : List UInt8) : Sf.qs (92 :: d :: u) = if d = 34 ∨ d = 92 then Sf.qs u else none := by simp [Sf.qs]
theorem quoted_some {l r : List UInt8} (h : Sf.qs l.tail = some r) : Sf.quoted l = (true, r) := by unfold Sf.quoted; rw [h]
theorem quoted_none {l : List UInt8} (h : Sf.qs l.tail = none) : Sf.quoted l = (false, l) := by unfold Sf.quoted; rw [h]
theorem drop_at (l : List UInt8) (k : Nat) (hk : k < l.length) : l.drop k = l[k] :: l.drop (k + 1) := List.drop_eq_getElem_cons hk

set_option maxRecDepth 20000 in
set_option maxHeartbeats 1600000 in
theorem quoted_calls (b : Nat) (l : List UInt8) (w : World) (hl : l.length ≤ 1048576) (h : Ps b l w) :
    Calls Tryd.prog 21 #[.pointer (some ⟨b, 0, none⟩)] w (ItemPost b (Sf.quoted l) w) := by
  have hc := h.cell
  have hf := h.free
  have hlt := h.lt
  have hne : ¬ w.heap.size = b := Nat.ne_of_gt hlt
  go_enter Tryd.func21, Tryd.ntmps21
  go_wp2_with fail
  go_loop [4] (fun i => ∃ k : Nat, 1 ≤ k ∧ k ≤ l.length + 1 ∧ i = .int .i64 k ∧ Hid (Sf.qs (l.drop k) = Sf.qs l.tail)) (fun i => l.length + 2 - (intOf i).toNat)
  case atStart => exact ⟨1, Nat.le_refl _, by omega, rfl, show _ = _ by simp⟩
  case round =>
    obtain ⟨k, h1, hk, rfl, hq⟩ := hrel
    by_cases hkl : k < l.length
    · have hdk : Hid (Sf.qs (l[k] :: l.drop (k + 1)) = Sf.qs l.tail) := show _ = _ by rw [← drop_at l k hkl]; exact hq.out
      by_cases hk2 : k + 1 < l.length
      · have hdk2 : Hid (l.drop (k + 1) = l[k + 1] :: l.drop (k + 2)) := drop_at l (k + 1) hk2
        have hkeq : ((k : Int) + 1 == (l.length : Int)) = false := by simp; omega
        go_wp2_with fail
        · have a1 : ((l[k].toNat : Int) == 92) = true := by assumption
          have a2 : (l[k + 1].toNat : Int) = 34 := by assumption
          have b1 : l[k] = 92 := by rw [← eq_u8 l[k] 92 92 rfl]; simpa using a1
          have b2 : l[k + 1] = 34 := by rw [← eq_u8 l[k + 1] 34 34 rfl]; exact a2
          go_round
          case rel => exact ⟨k + 2, by omega, by omega, by go_num, show _ = _ by rw [← hdk.out, hdk2.out, b1, b2, qs_bs]; simp⟩
          case measure => simp [intOf]; omega
        · have a1 : ((l[k].toNat : Int) == 92) = true := by assumption
          have a2 : ¬ (l[k + 1].toNat : Int) = 34 := by assumption
          have a3 : ((l[k + 1].toNat : Int) != 92) = true := by simp_all
          have b1 : l[k] = 92 := by rw [← eq_u8 l[k] 92 92 rfl]; simpa using a1
          have b2 : ¬ l[k + 1] = 34 := by rw [← eq_u8 l[k + 1] 34 34 rfl]; exact a2
          have b3 : ¬ l[k + 1] = 92 := by rw [← eq_u8 l[k + 1] 92 92 rfl]; simpa using a3
          have hN : Sf.qs l.tail = none := by rw [← hdk.out, hdk2.out, b1, qs_bs]; simp [b2, b3]
          refine bodyPost_ret (by simp [results, Tryd.results21, go_sem]; try rfl) rfl ?_
          rw [quoted_none hN]
          exact ⟨_, _, rfl, h.alloc _, (Kp.refl b w).alloc _⟩
        · have a1 : ((l[k].toNat : Int) == 92) = true := by assumption
          have a2 : ¬ (l[k + 1].toNat : Int) = 34 := by assumption
          have a3 : (l[k + 1].toNat : Int) = 92 := by simp_all
          have b1 : l[k] = 92 := by rw [← eq_u8 l[k] 92 92 rfl]; simpa using a1
          have b3 : l[k + 1] = 92 := by rw [← eq_u8 l[k + 1] 92 92 rfl]; exact a3
          go_round
          case rel => exact ⟨k + 2, by omega, by omega, by go_num, show _ = _ by rw [← hdk.out, hdk2.out, b1, b3, qs_bs]; simp⟩
          case measure => simp [intOf]; omega
        · have a1 : ((l[k].toNat : Int) == 92) = false := by assumption
          have a2 : ((l[k].toNat : Int) == 34) = true := by assumption
          have b1 : ¬ l[k] = 92 := by rw [← eq_u8 l[k] 92 92 rfl]; simpa using a1
          have b2 : l[k] = 34 := by rw [← eq_u8 l[k] 34 34 rfl]; simpa using a2
          have hN : Sf.qs l.tail = some (l.drop (k + 1)) := by rw [← hdk.out, qs_cons _ _ b1, if_pos b2]
          refine bodyPost_ret (by simp [results, Tryd.results21, go_sem]; try rfl) rfl ?_
          rw [quoted_some hN]
          exact ⟨_, _, rfl, (h.set _).alloc _, ((Kp.refl b w).set _ _).alloc _⟩
        · have a1 : ((l[k].toNat : Int) == 92) = false := by assumption
          have a2 : ((l[k].toNat : Int) == 34) = false := by assumption
          have a3 : (l[k].toNat : Int) < 32 ∨ 126 < (l[k].toNat : Int) := by assumption
          have b1 : ¬ l[k] = 92 := by rw [← eq_u8 l[k] 92 92 rfl]; simpa using a1
          have b2 : ¬ l[k] = 34 := by rw [← eq_u8 l[k] 34 34 rfl]; simpa using a2
          have hN : Sf.qs l.tail = none := by rw [← hdk.out, qs_cons _ _ b1, if_neg b2, if_pos (by omega)]
          refine bodyPost_ret (by simp [results, Tryd.results21, go_sem]; try rfl) rfl ?_
          rw [quoted_none hN]
          exact ⟨_, _, rfl, h.alloc _, (Kp.refl b w).alloc _⟩
        · have a1 : ((l[k].toNat : Int) == 92) = false := by assumption
          have a2 : ((l[k].toNat : Int) == 34) = false := by assumption
          have a3 : 32 ≤ (l[k].toNat : Int) ∧ (l[k].toNat : Int) ≤ 126 := by assumption
          have b1 : ¬ l[k] = 92 := by rw [← eq_u8 l[k] 92 92 rfl]; simpa using a1
          have b2 : ¬ l[k] = 34 := by rw [← eq_u8 l[k] 34 34 rfl]; simpa using a2
          go_round
          case rel => exact ⟨k + 1, by omega, by omega, by go_num, show _ = _ by rw [← hdk.out, qs_cons _ _ b1, if_neg b2, if_neg (by omega)]⟩
          case measure => simp [intOf]; omega
        · have a1 : ((l[k].toNat : Int) == 92) = false := by assumption
          have a2 : ((l[k].toNat : Int) == 34) = false := by assumption
          have a3 : (l[k].toNat : Int) < 32 := by assumption
          have b1 : ¬ l[k] = 92 := by rw [← eq_u8 l[k] 92 92 rfl]; simpa using a1
          have b2 : ¬ l[k] = 34 := by rw [← eq_u8 l[k] 34 34 rfl]; simpa using a2
          have hN : Sf.qs l.tail = none := by rw [← hdk.out, qs_cons _ _ b1, if_neg b2, if_pos (by omega)]
          refine bodyPost_ret (by simp [results, Tryd.results21, go_sem]; try rfl) rfl ?_
          rw [quoted_none hN]
          exact ⟨_, _, rfl, h.alloc _, (Kp.refl b w).alloc _⟩
      · have hkeq : ((k : Int) + 1 == (l.length : Int)) = true := by simp; omega
        have hdn : Hid (l.drop (k + 1) = []) := show _ = _ by simp; omega
        go_wp2_with fail
        · have a1 : ((l[k].toNat : Int) == 92) = true := by assumption
          have b1 : l[k] = 92 := by rw [← eq_u8 l[k] 92 92 rfl]; simpa using a1
          have hN : Sf.qs l.tail = none := by rw [← hdk.out, hdn.out, b1]; rfl
          refine bodyPost_ret (by simp [results, Tryd.results21, go_sem]; try rfl) rfl ?_
          rw [quoted_none hN]
          exact ⟨_, _, rfl, h.alloc _, (Kp.refl b w).alloc _⟩
        · have a1 : ((l[k].toNat : Int) == 92) = false := by assumption
          have a2 : ((l[k].toNat : Int) == 34) = true := by assumption
          have b1 : ¬ l[k] = 92 := by rw [← eq_u8 l[k] 92 92 rfl]; simpa using a1
          have b2 : l[k] = 34 := by rw [← eq_u8 l[k] 34 34 rfl]; simpa using a2
          have hN : Sf.qs l.tail = some (l.drop (k + 1)) := by rw [← hdk.out, qs_cons _ _ b1, if_pos b2]
          refine bodyPost_ret (by simp [results, Tryd.results21, go_sem]; try rfl) rfl ?_
          rw [quoted_some hN]
          exact ⟨_, _, rfl, (h.set _).alloc _, ((Kp.refl b w).set _ _).alloc _⟩
        · have a1 : ((l[k].toNat : Int) == 92) = false := by assumption
          have a2 : ((l[k].toNat : Int) == 34) = false := by assumption
          have a3 : (l[k].toNat : Int) < 32 ∨ 126 < (l[k].toNat : Int) := by assumption
          have b1 : ¬ l[k] = 92 := by rw [← eq_u8 l[k] 92 92 rfl]; simpa using a1
          have b2 : ¬ l[k] = 34 := by rw [← eq_u8 l[k] 34 34 rfl]; simpa using a2
          have hN : Sf.qs l.tail = none := by rw [← hdk.out, qs_cons _ _ b1, if_neg b2, if_pos (by omega)]
          refine bodyPost_ret (by simp [results, Tryd.results21, go_sem]; try rfl) rfl ?_
          rw [quoted_none hN]
          exact ⟨_, _, rfl, h.alloc _, (Kp.refl b w).alloc _⟩
        · have a1 : ((l[k].toNat : Int) == 92) = false := by assumption
          have a2 : ((l[k].toNat : Int) == 34) = false := by assumption
          have a3 : 32 ≤ (l[k].toNat : Int) ∧ (l[k].toNat : Int) ≤ 126 := by assumption
          have b1 : ¬ l[k] = 92 := by rw [← eq_u8 l[k] 92 92 rfl]; simpa using a1
          have b2 : ¬ l[k] = 34 := by rw [← eq_u8 l[k] 34 34 rfl]; simpa using a2
          go_round
          case rel => exact ⟨k + 1, by omega, by omega, by go_num, show _ = _ by rw [← hdk.out, qs_cons _ _ b1, if_neg b2, if_neg (by omega)]⟩
          case measure => simp [intOf]; omega
        · have a1 : ((l[k].toNat : Int) == 92) = false := by assumption
          have a2 : ((l[k].toNat : Int) == 34) = false := by assumption
          have a3 : (l[k].toNat : Int) < 32 := by assumption
          have b1 : ¬ l[k] = 92 := by rw [← eq_u8 l[k] 92 92 rfl]; simpa using a1
          have b2 : ¬ l[k] = 34 := by rw [← eq_u8 l[k] 34 34 rfl]; simpa using a2
          have hN : Sf.qs l.tail = none := by rw [← hdk.out, qs_cons _ _ b1, if_neg b2, if_pos (by omega)]
          refine bodyPost_ret (by simp [results, Tryd.results21, go_sem]; try rfl) rfl ?_
          rw [quoted_none hN]
          exact ⟨_, _, rfl, h.alloc _, (Kp.refl b w).alloc _⟩
    · have hN : Hid (Sf.qs l.tail = none) := show _ = _ by rw [← hq.out]; rw [List.drop_eq_nil_of_le (by omega)]; rfl
      go_wp2_with fail
      refine bodyPost_ret (by simp [results, Tryd.results21, go_sem]; try rfl) rfl ?_
      rw [quoted_none hN.out]
      exact ⟨_, _, rfl, h.alloc _, (Kp.refl b w).alloc _⟩

end Go.Proofs.Qxb6614133aDoor
