import Derived.Test.Qxb6614133aDoorW4
set_option linter.unusedSimpArgs false
set_option linter.unusedVariables false
namespace Go.Proofs.Qxb6614133aDoor
open Go Go.RowKit
attribute [local go_sem] str_size str_get str_extract str_toList str_append

theorem span_le (p : UInt8 → Bool) (l : List UInt8) : (l.dropWhile p).length ≤ l.length := (List.dropWhile_suffix _).length_le

set_option maxRecDepth 20000 in
set_option maxHeartbeats 800000 in
theorem bare_nil (b : Nat) (w : World) (h : Ps b [] w) : Calls Tryd.prog 10 #[.pointer (some ⟨b, 0, none⟩)] w (ItemPost b (Sf.bare []) w) := by
  have hc := h.cell
  have hf := h.free
  have hlt := h.lt
  have hne : ¬ w.heap.size = b := Nat.ne_of_gt hlt
  go_enter Tryd.func10, Tryd.ntmps10
  go_wp2_with fail
  refine bodyPost_ret (by simp [results, Tryd.results10, go_sem]; try rfl) rfl ?_
  exact ⟨_, _, rfl, h.alloc _, (Kp.refl b w).alloc _⟩

/-- The result's own block behind a call that kept it. -/
theorem own_later {b : Nat} {w w1 : World} {a0 a1 : Value} (hlt : b < w.heap.size) (q : Kp b (w.alloc (.cells #[a0, a1] 35)) w1) :
    w1.cell? ⟨w.heap.size, 0, none⟩ = some a0 ∧ w1.cell? ⟨w.heap.size, 1, none⟩ = some a1 ∧ w1.frozen? ⟨w.heap.size, 0, none⟩ = false ∧ w1.frozen? ⟨w.heap.size, 1, none⟩ = false ∧ w.heap.size < w1.heap.size := by
  have hne : ¬ w.heap.size = b := Nat.ne_of_gt hlt
  have hz := q.size
  simp at hz
  exact ⟨by rw [q.cell _ _ (by simp) hne]; simp, by rw [q.cell _ _ (by simp) hne]; simp, by rw [q.free _ _ (by simp) hne]; simp, by rw [q.free _ _ (by simp) hne]; simp, by omega⟩

set_option maxRecDepth 20000 in
set_option maxHeartbeats 800000 in
theorem bare_number (b : Nat) (c : UInt8) (t : List UInt8) (w : World) (hl : (c :: t).length ≤ 1048576) (h : Ps b (c :: t) w) (h1 : (c == 45 || Sf.digit c) = true) :
    Calls Tryd.prog 10 #[.pointer (some ⟨b, 0, none⟩)] w (ItemPost b (Sf.bare (c :: t)) w) := by
  have hc := h.cell
  have hf := h.free
  have hlt := h.lt
  have hne : ¬ w.heap.size = b := Nat.ne_of_gt hlt
  have e : Hid (Sf.bare (c :: t) = Sf.number (c :: t)) := show _ = _ by rw [Sf.bare, if_pos h1]
  have cd := fun w => digit_calls c w
  have cn := fun w' h' => number_calls b (c :: t) w' hl h'
  obtain ⟨r, hr⟩ : ∃ r, Sf.number (c :: t) = r := ⟨_, rfl⟩
  rw [hr] at cn
  have HR : Hid (Sf.bare (c :: t) = r) := e.out.trans hr
  clear e hr
  by_cases h45 : c = 45
  · have t1 : ((c.toNat : Int) == 45) = true := by rw [beq_u8 c 45 45 rfl]; simp [h45]
    clear h45 h1 cd
    go_enter Tryd.func10, Tryd.ntmps10
    go_wp2_with (go_at_call 20; go_fit (cn _ (h.alloc _)); rintro e w1 ⟨s0, s1, rfl, p1, q1⟩; obtain ⟨x0, x1, y0, y1, z1⟩ := own_later hlt q1)
    refine bodyPost_ret (by simp [results, Tryd.results10, go_sem, x0, x1]; try rfl) rfl ?_
    rw [HR.out]
    exact ⟨_, _, rfl, (p1.put hlt _).put hlt _, ((((Kp.refl b w).alloc _).trans q1).put (Nat.le_refl _) _).put (Nat.le_refl _) _⟩
  · have t1 : ((c.toNat : Int) == 45) = false := by rw [beq_u8 c 45 45 rfl]; simp [h45]
    have hd : Sf.digit c = true := by simpa [h45] using h1
    rw [hd] at cd
    clear h45 h1 hd
    go_enter Tryd.func10, Tryd.ntmps10
    go_wp2_with (first
      | (go_at_call 18; go_fit (cd _); rintro e w' ⟨rfl, rfl⟩)
      | (go_at_call 20; go_fit (cn _ (h.alloc _)); rintro e w1 ⟨s0, s1, rfl, p1, q1⟩; obtain ⟨x0, x1, y0, y1, z1⟩ := own_later hlt q1))
    refine bodyPost_ret (by simp [results, Tryd.results10, go_sem, x0, x1]; try rfl) rfl ?_
    rw [HR.out]
    exact ⟨_, _, rfl, (p1.put hlt _).put hlt _, ((((Kp.refl b w).alloc _).trans q1).put (Nat.le_refl _) _).put (Nat.le_refl _) _⟩

end Go.Proofs.Qxb6614133aDoor
