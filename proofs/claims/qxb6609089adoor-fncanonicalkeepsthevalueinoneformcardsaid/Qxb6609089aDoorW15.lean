import Derived.Test.Qxb6609089aDoorW14
set_option linter.unusedSimpArgs false
set_option linter.unusedVariables false
namespace Go.Proofs.Qxb6609089aDoor
open Go Go.RowKit
attribute [local go_sem] str_size str_get str_extract str_toList str_append

set_option maxHeartbeats 1600000 in
set_option maxRecDepth 20000 in
theorem uc_wrongquote (q d : UInt8) (s : List UInt8) (w : World) (t : TypeId) (x : Value) (hq : q = 34 ∧ d = 39 ∨ q = 39 ∧ d = 34) (hs : s.length + 2 ≤ 1000000000) (hS : Syn w t x) :
    Calls Tryd.prog 31 #[.string (str (92 :: d :: s)), .int .u8 q.toNat] w (UCPost t x w none) := by
  have hS' : w.cell? ⟨1, 0, none⟩ = some (.iface t x) := hS
  clear hS
  rcases hq with ⟨rfl, rfl⟩ | ⟨rfl, rfl⟩
  all_goals
    go_enter Tryd.func31, Tryd.ntmps31
    go_wp2_with fail
    try simp only [Exit.inBlock, Exit.then]
    refine bodyPost_ret (results_tmp4 rfl _ _ _) rfl ?_
    exact ⟨Below.refl _ _, _, _, _, rfl⟩

set_option maxHeartbeats 1600000 in
set_option maxRecDepth 20000 in
theorem uc_other (q d : UInt8) (s : List UInt8) (w : World) (t : TypeId) (x : Value) (hq : q = 34 ∨ q = 39) (hs : s.length + 2 ≤ 1000000000) (hS : Syn w t x)
    (hd : ∀ k ∈ ([97, 98, 102, 110, 114, 116, 118, 120, 117, 85, 48, 49, 50, 51, 52, 53, 54, 55, 92, 39, 34] : List Int), (d.toNat : Int) ≠ k) :
    Calls Tryd.prog 31 #[.string (str (92 :: d :: s)), .int .u8 q.toNat] w (UCPost t x w none) := by
  have h1 : ((92 : Int) == (q.toNat : Int)) = false := by rcases hq with rfl | rfl <;> rfl
  clear hq
  have hS' : w.cell? ⟨1, 0, none⟩ = some (.iface t x) := hS
  clear hS
  have n1 : ((d.toNat : Int) == 97) = false := ne_k (hd _ (by simp))
  have n2 : ((d.toNat : Int) == 98) = false := ne_k (hd _ (by simp))
  have n3 : ((d.toNat : Int) == 102) = false := ne_k (hd _ (by simp))
  have n4 : ((d.toNat : Int) == 110) = false := ne_k (hd _ (by simp))
  have n5 : ((d.toNat : Int) == 114) = false := ne_k (hd _ (by simp))
  have n6 : ((d.toNat : Int) == 116) = false := ne_k (hd _ (by simp))
  have n7 : ((d.toNat : Int) == 118) = false := ne_k (hd _ (by simp))
  have n8 : ((d.toNat : Int) == 120) = false := ne_k (hd _ (by simp))
  have n9 : ((d.toNat : Int) == 117) = false := ne_k (hd _ (by simp))
  have n10 : ((d.toNat : Int) == 85) = false := ne_k (hd _ (by simp))
  have o0 : ((d.toNat : Int) == 48) = false := ne_k (hd _ (by simp))
  have o1 : ((d.toNat : Int) == 49) = false := ne_k (hd _ (by simp))
  have o2 : ((d.toNat : Int) == 50) = false := ne_k (hd _ (by simp))
  have o3 : ((d.toNat : Int) == 51) = false := ne_k (hd _ (by simp))
  have o4 : ((d.toNat : Int) == 52) = false := ne_k (hd _ (by simp))
  have o5 : ((d.toNat : Int) == 53) = false := ne_k (hd _ (by simp))
  have o6 : ((d.toNat : Int) == 54) = false := ne_k (hd _ (by simp))
  have o7 : ((d.toNat : Int) == 55) = false := ne_k (hd _ (by simp))
  have m1 : ((d.toNat : Int) == 92) = false := ne_k (hd _ (by simp))
  have m2 : ((d.toNat : Int) == 39) = false := ne_k (hd _ (by simp))
  have m3 : ((d.toNat : Int) == 34) = false := ne_k (hd _ (by simp))
  clear hd
  go_enter Tryd.func31, Tryd.ntmps31
  go_wp2_with fail
  try simp only [Exit.inBlock, Exit.then]
  refine bodyPost_ret (results_tmp4 rfl _ _ _) rfl ?_
  exact ⟨Below.refl _ _, _, _, _, rfl⟩

theorem nat_ne {d : UInt8} {k : UInt8} {m : Int} (h : ¬ d = k) (hm : (k.toNat : Int) = m) : (d.toNat : Int) ≠ m := fun e => h (UInt8.toNat_inj.1 (by omega))
theorem nat_eq {d : UInt8} {k : UInt8} (h : d.toNat = k.toNat) : d = k := UInt8.toNat_inj.1 h

theorem esc_calls (q d : UInt8) (s : List UInt8) (w : World) (t : TypeId) (x : Value) (hq : q = 34 ∨ q = 39) (hs : s.length + 2 ≤ 1000000000) (hS : Syn w t x) :
    Calls Tryd.prog 31 #[.string (str (92 :: d :: s)), .int .u8 q.toNat] w (UCPost t x w (Uq.esc q d s)) := by
  have h1 : ((92 : Int) == (q.toNat : Int)) = false := by rcases hq with rfl | rfl <;> rfl
  by_cases k0 : d = 97
  · subst k0; exact uc_simple q _ 7 s w t x hq (by simp [Uq.simpleEsc]) hs
  by_cases k1 : d = 98
  · subst k1; exact uc_simple q _ 8 s w t x hq (by simp [Uq.simpleEsc]) hs
  by_cases k2 : d = 102
  · subst k2; exact uc_simple q _ 12 s w t x hq (by simp [Uq.simpleEsc]) hs
  by_cases k3 : d = 110
  · subst k3; exact uc_simple q _ 10 s w t x hq (by simp [Uq.simpleEsc]) hs
  by_cases k4 : d = 114
  · subst k4; exact uc_simple q _ 13 s w t x hq (by simp [Uq.simpleEsc]) hs
  by_cases k5 : d = 116
  · subst k5; exact uc_simple q _ 9 s w t x hq (by simp [Uq.simpleEsc]) hs
  by_cases k6 : d = 118
  · subst k6; exact uc_simple q _ 11 s w t x hq (by simp [Uq.simpleEsc]) hs
  by_cases k7 : d = 92
  · subst k7; exact uc_simple q _ 92 s w t x hq (by simp [Uq.simpleEsc]) hs
  have e : Uq.simpleEsc.lookup d = none := by
    simp [Uq.simpleEsc, List.lookup, beq_eq_false_iff_ne.2 k0, beq_eq_false_iff_ne.2 k1, beq_eq_false_iff_ne.2 k2, beq_eq_false_iff_ne.2 k3, beq_eq_false_iff_ne.2 k4, beq_eq_false_iff_ne.2 k5, beq_eq_false_iff_ne.2 k6, beq_eq_false_iff_ne.2 k7]
  rw [Uq.esc, e]
  simp only []
  by_cases k8 : d = 120
  · subst k8; rw [if_pos rfl]; exact uc_x q s w t x hq hs hS
  rw [if_neg k8]
  by_cases k9 : d = 117
  · subst k9; rw [if_pos rfl]; exact uc_u q _ 4 s w t x hq (.inl ⟨rfl, rfl⟩) hs hS
  rw [if_neg k9]
  by_cases k10 : d = 85
  · subst k10; rw [if_pos rfl]; exact uc_u q _ 8 s w t x hq (.inr ⟨rfl, rfl⟩) hs hS
  rw [if_neg k10]
  by_cases k11 : 48 ≤ d.toNat ∧ d.toNat ≤ 55
  · rw [if_pos k11]
    match s, hs with
    | [], _ => exact uc_oct_short q d [] w t x hq (by
        have : d.toNat = 48 ∨ d.toNat = 49 ∨ d.toNat = 50 ∨ d.toNat = 51 ∨ d.toNat = 52 ∨ d.toNat = 53 ∨ d.toNat = 54 ∨ d.toNat = 55 := by omega
        rcases this with h | h | h | h | h | h | h | h
        · exact .inl (nat_eq h)
        · exact .inr (.inl (nat_eq h))
        · exact .inr (.inr (.inl (nat_eq h)))
        · exact .inr (.inr (.inr (.inl (nat_eq h))))
        · exact .inr (.inr (.inr (.inr (.inl (nat_eq h)))))
        · exact .inr (.inr (.inr (.inr (.inr (.inl (nat_eq h))))))
        · exact .inr (.inr (.inr (.inr (.inr (.inr (.inl (nat_eq h)))))))
        · exact .inr (.inr (.inr (.inr (.inr (.inr (.inr (nat_eq h)))))))) (by simp) hS
    | [a], _ => exact uc_oct_short q d [a] w t x hq (by
        have : d.toNat = 48 ∨ d.toNat = 49 ∨ d.toNat = 50 ∨ d.toNat = 51 ∨ d.toNat = 52 ∨ d.toNat = 53 ∨ d.toNat = 54 ∨ d.toNat = 55 := by omega
        rcases this with h | h | h | h | h | h | h | h
        · exact .inl (nat_eq h)
        · exact .inr (.inl (nat_eq h))
        · exact .inr (.inr (.inl (nat_eq h)))
        · exact .inr (.inr (.inr (.inl (nat_eq h))))
        · exact .inr (.inr (.inr (.inr (.inl (nat_eq h)))))
        · exact .inr (.inr (.inr (.inr (.inr (.inl (nat_eq h))))))
        · exact .inr (.inr (.inr (.inr (.inr (.inr (.inl (nat_eq h)))))))
        · exact .inr (.inr (.inr (.inr (.inr (.inr (.inr (nat_eq h)))))))) (by simp) hS
    | a :: b :: s, hs => exact uc_oct1 q d a b d.toNat s w t x h1 rfl (by omega) (by simpa using hs) hS
  rw [if_neg k11]
  by_cases k12 : d = q
  · rw [if_pos k12]; subst k12; exact uc_quote d s w t x hq hs
  rw [if_neg k12]
  by_cases k13 : d = 39
  · subst k13
    refine uc_wrongquote q _ s w t x (.inl ⟨?_, rfl⟩) hs hS
    rcases hq with rfl | rfl
    · rfl
    · exact absurd rfl k12
  by_cases k14 : d = 34
  · subst k14
    refine uc_wrongquote q _ s w t x (.inr ⟨?_, rfl⟩) hs hS
    rcases hq with rfl | rfl
    · exact absurd rfl k12
    · rfl
  refine uc_other q d s w t x hq hs hS fun k hk => ?_
  simp only [List.mem_cons, List.not_mem_nil, or_false] at hk
  rcases hk with rfl | rfl | rfl | rfl | rfl | rfl | rfl | rfl | rfl | rfl | rfl | rfl | rfl | rfl | rfl | rfl | rfl | rfl | rfl | rfl | rfl
  · exact nat_ne k0 rfl
  · exact nat_ne k1 rfl
  · exact nat_ne k2 rfl
  · exact nat_ne k3 rfl
  · exact nat_ne k4 rfl
  · exact nat_ne k5 rfl
  · exact nat_ne k6 rfl
  · exact nat_ne k8 rfl
  · exact nat_ne k9 rfl
  · exact nat_ne k10 rfl
  · omega
  · omega
  · omega
  · omega
  · omega
  · omega
  · omega
  · omega
  · exact nat_ne k7 rfl
  · exact nat_ne k13 rfl
  · exact nat_ne k14 rfl

/-- UnquoteChar, where the first byte is not the quote. -/
theorem uc_calls (q c : UInt8) (s : List UInt8) (w : World) (t : TypeId) (x : Value) (hq : q = 34 ∨ q = 39) (hcq : c ≠ q) (hs : s.length + 1 ≤ 1000000000) (hS : Syn w t x) (hU : Lib.Utf8Tabs 3 4 w) :
    Calls Tryd.prog 31 #[.string (str (c :: s)), .int .u8 q.toNat] w (UCPost t x w (Uq.uc q (c :: s))) := by
  unfold Uq.uc
  simp only []
  by_cases h : 128 ≤ c.toNat
  · rw [if_pos h]; exact uc_high c q s w t x h hcq hs hU
  rw [if_neg h]
  by_cases h92 : c = 92
  · subst h92
    rw [if_neg (by simp)]
    cases s with
    | nil => exact uc_end q w t x hq hS
    | cons d s => exact esc_calls q d s w t x hq (by simpa using hs) hS
  · rw [if_pos h92]
    exact uc_plain c q s w t x (by omega) hcq (nat_ne h92 rfl) hs

end Go.Proofs.Qxb6609089aDoor
