import Derived.Test.Qxb6609089aDoorW13
set_option linter.unusedSimpArgs false
set_option linter.unusedVariables false
namespace Go.Proofs.Qxb6609089aDoor
open Go Go.RowKit
attribute [local go_sem] str_size str_get str_extract str_toList str_append

set_option maxHeartbeats 3200000 in
set_option maxRecDepth 20000 in
theorem uc_oct_short (q d : UInt8) (s : List UInt8) (w : World) (t : TypeId) (x : Value) (hq : q = 34 ∨ q = 39) (hd : d = 48 ∨ d = 49 ∨ d = 50 ∨ d = 51 ∨ d = 52 ∨ d = 53 ∨ d = 54 ∨ d = 55) (hs : s.length < 2) (hS : Syn w t x) :
    Calls Tryd.prog 31 #[.string (str (92 :: d :: s)), .int .u8 q.toNat] w (UCPost t x w none) := by
  have h1 : ((92 : Int) == (q.toNat : Int)) = false := by rcases hq with rfl | rfl <;> rfl
  clear hq
  have hS' : w.cell? ⟨1, 0, none⟩ = some (.iface t x) := hS
  clear hS
  rcases hd with rfl | rfl | rfl | rfl | rfl | rfl | rfl | rfl
  all_goals
    go_enter Tryd.func31, Tryd.ntmps31
    go_wp2_with fail
    try simp only [Exit.inBlock, Exit.then]
    refine bodyPost_ret (results_tmp4 rfl _ _ _) rfl ?_
    exact ⟨Below.refl _ _, _, _, _, rfl⟩

theorem eq_k {c : UInt8} {k : Int} (h : (c.toNat : Int) = k) : ((c.toNat : Int) == k) = true := by
  rw [beq_iff_eq]; exact h
theorem beq_k (c : UInt8) (k : Int) : ((c.toNat : Int) == k) = decide ((c.toNat : Int) = k) := by
  rw [Bool.eq_iff_iff, beq_iff_eq, decide_eq_true_iff]
theorem oct_yes {d a b : UInt8} {s : List UInt8} (ha : 0 ≤ (a.toNat : Int) - 48 ∧ (a.toNat : Int) - 48 ≤ 7) (hb : 0 ≤ (b.toNat : Int) - 48 ∧ (b.toNat : Int) - 48 ≤ 7) :
    Uq.oct d (a :: b :: s) = if 255 < Uq.octV d a b then none else some (Uq.octV d a b, false, s) := by
  rw [Uq.oct, if_pos ⟨⟨by omega, by omega⟩, by omega, by omega⟩]
theorem oct_no_a {d a b : UInt8} {s : List UInt8} (ha : (a.toNat : Int) - 48 < 0 ∨ 7 < (a.toNat : Int) - 48) : Uq.oct d (a :: b :: s) = none := by
  rw [Uq.oct, if_neg (by omega)]
theorem oct_no_b {d a b : UInt8} {s : List UInt8} (hb : (b.toNat : Int) - 48 < 0 ∨ 7 < (b.toNat : Int) - 48) : Uq.oct d (a :: b :: s) = none := by
  rw [Uq.oct, if_neg (by omega)]

set_option maxHeartbeats 6400000 in
set_option maxRecDepth 20000 in
theorem uc_oct1 (q d a b : UInt8) (k : Int) (s : List UInt8) (w : World) (t : TypeId) (x : Value) (h1 : ((92 : Int) == (q.toNat : Int)) = false) (hd : (d.toNat : Int) = k) (hk : k = 48 ∨ k = 49 ∨ k = 50 ∨ k = 51 ∨ k = 52 ∨ k = 53 ∨ k = 54 ∨ k = 55) (hs : s.length + 4 ≤ 1000000000) (hS : Syn w t x) :
    Calls Tryd.prog 31 #[.string (str (92 :: d :: a :: b :: s)), .int .u8 q.toNat] w (UCPost t x w (Uq.oct d (a :: b :: s))) := by
  have hS' : w.cell? ⟨1, 0, none⟩ = some (.iface t x) := hS
  clear hS
  have ha := UInt8.toNat_lt a
  have hb := UInt8.toNat_lt b
  have hd1 : 48 ≤ (d.toNat : Int) ∧ (d.toNat : Int) ≤ 55 := by omega
  have n1 : ((d.toNat : Int) == 97) = false := ne_k (by omega)
  have n2 : ((d.toNat : Int) == 98) = false := ne_k (by omega)
  have n3 : ((d.toNat : Int) == 102) = false := ne_k (by omega)
  have n4 : ((d.toNat : Int) == 110) = false := ne_k (by omega)
  have n5 : ((d.toNat : Int) == 114) = false := ne_k (by omega)
  have n6 : ((d.toNat : Int) == 116) = false := ne_k (by omega)
  have n7 : ((d.toNat : Int) == 118) = false := ne_k (by omega)
  have n8 : ((d.toNat : Int) == 120) = false := ne_k (by omega)
  have n9 : ((d.toNat : Int) == 117) = false := ne_k (by omega)
  have n10 : ((d.toNat : Int) == 85) = false := ne_k (by omega)
  have o : ∀ m : Int, ((d.toNat : Int) == m) = decide (k = m) := fun m => by rw [beq_k, hd]
  have o0 := o 48
  have o1 := o 49
  have o2 := o 50
  have o3 := o 51
  have o4 := o 52
  have o5 := o 53
  have o6 := o 54
  have o7 := o 55
  clear hd o
  rcases hk with rfl | rfl | rfl | rfl | rfl | rfl | rfl | rfl
  all_goals
    simp only [Int.reduceEq, decide_true, decide_false] at o0 o1 o2 o3 o4 o5 o6 o7
    go_enter Tryd.func31, Tryd.ntmps31
    go_wp2_with fail
    refine wp_loop_rounds 3 ?_
    rw [rounds_succ]
    go_wp2_with fail
    iterate 2
      try simp only [Exit.inBlock, Exit.then]
      refine bodyPost_ret (results_tmp4 rfl _ _ _) rfl ?_
      rw [oct_no_a (by omega)]
      exact ⟨Below.refl _ _, _, _, _, rfl⟩
    rw [rounds_succ]
    go_wp2_with fail
    iterate 2
      try simp only [Exit.inBlock, Exit.then]
      refine bodyPost_ret (results_tmp4 rfl _ _ _) rfl ?_
      rw [oct_no_b (by omega)]
      exact ⟨Below.refl _ _, _, _, _, rfl⟩
    rw [rounds_succ]
    go_wp2_with fail
    · have hv : 255 < Uq.octV d a b := by unfold Uq.octV; assumption
      try simp only [Exit.inBlock, Exit.then]
      refine bodyPost_ret (results_tmp4 rfl _ _ _) rfl ?_
      rw [oct_yes (by omega) (by omega), if_pos hv]
      exact ⟨Below.refl _ _, _, _, _, rfl⟩
    · have hv : Uq.octV d a b ≤ 255 := by unfold Uq.octV; assumption
      try simp only [Exit.inBlock, Exit.then]
      refine bodyPost_ret (results_tmp4 rfl _ _ _) rfl ?_
      rw [oct_yes (by omega) (by omega), if_neg (by omega)]
      exact ⟨Below.refl _ _, rfl⟩

end Go.Proofs.Qxb6609089aDoor
