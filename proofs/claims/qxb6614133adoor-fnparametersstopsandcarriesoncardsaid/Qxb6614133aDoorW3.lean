import Derived.Test.Qxb6614133aDoorW2
set_option linter.unusedSimpArgs false
set_option linter.unusedVariables false
namespace Go.Proofs.Qxb6614133aDoor
open Go Go.RowKit
attribute [local go_sem] str_size str_get str_extract str_toList str_append

theorem consume_at (b : Nat) (l : List UInt8) (c : UInt8) (k : Int) (hk : (c.toNat : Int) = k) (w : World) (h : Ps b l w) :
    Calls Tryd.prog 7 #[.pointer (some ⟨b, 0, none⟩), .int .u8 k] w fun e w' => e = .returned (.bool (Sf.consume c l).1) ∧ Ps b (Sf.consume c l).2 w' ∧ Kp b w w' := by
  rw [← hk]; exact consume_calls b l c w h

theorem consume_le (c : UInt8) (l : List UInt8) : (Sf.consume c l).2.length ≤ l.length := (Sf.consume_suffix c l).length_le

theorem ret_pair {x : Array Value} {a b : Bool} (h : a = b) : Ending.returned (.tuple #[.agg x, .bool a]) = .returned (.tuple #[.agg x, .bool b]) := by rw [h]
/-- What a reader of an item leaves. A name, so that the walk's simp leaves it standing. -/
def ItemPost (b : Nat) (r : Bool × List UInt8) (w : World) (e : Ending) (w' : World) : Prop := ∃ s0 s1 : ByteArray, e = .returned (.tuple #[.agg #[.string s0, .string s1], .bool r.1]) ∧ Ps b r.2 w' ∧ Kp b w w'

set_option maxHeartbeats 800000 in
theorem number_calls (b : Nat) (l : List UInt8) (w : World) (hl : l.length ≤ 1048576) (h : Ps b l w) :
    Calls Tryd.prog 20 #[.pointer (some ⟨b, 0, none⟩)] w (ItemPost b (Sf.number l) w) := by
  have hc := h.cell
  have hf := h.free
  have hlt := h.lt
  have hne : ¬ w.heap.size = b := Nat.ne_of_gt hlt
  obtain ⟨l1, h1⟩ : ∃ l1, (Sf.consume 45 l).2 = l1 := ⟨_, rfl⟩
  obtain ⟨l2, h2⟩ : ∃ l2, l1.dropWhile Sf.digit = l2 := ⟨_, rfl⟩
  obtain ⟨i, hi⟩ : ∃ i, l1.takeWhile Sf.digit = i := ⟨_, rfl⟩
  obtain ⟨k1, l3, h3⟩ : ∃ k1 l3, Sf.consume 46 l2 = (k1, l3) := ⟨_, _, rfl⟩
  have n1 : l1.length ≤ l.length := by rw [← h1]; exact consume_le 45 l
  have n2 : l2.length ≤ l1.length := by rw [← h2]; exact (List.dropWhile_suffix _).length_le
  have n3 : l3.length ≤ l2.length := by have := consume_le 46 l2; rw [h3] at this; exact this
  have ni : i.length ≤ l1.length := by rw [← hi]; exact (List.takeWhile_prefix _).length_le
  have c1 := fun w' h' => consume_at b l 45 45 rfl w' h'
  have c2 := fun w' h' => span_calls 18 Sf.digit (by exact fun _ _ => rfl) digit_calls b l1 w' (by omega) h'
  have c3 := fun w' h' => consume_at b l2 46 46 rfl w' h'
  have c4 := fun w' h' => span_calls 18 Sf.digit (by exact fun _ _ => rfl) digit_calls b l3 w' (by omega) h'
  rw [h1] at c1
  rw [h2, hi] at c2
  rw [h3] at c3
  have H1 : Hid ((Sf.consume 45 l).2 = l1) := h1
  have H2 : Hid (l1.dropWhile Sf.digit = l2) := h2
  have HI : Hid (l1.takeWhile Sf.digit = i) := hi
  have H3 : Hid (Sf.consume 46 l2 = (k1, l3)) := h3
  clear h1 h2 hi h3
  go_enter Tryd.func20, Tryd.ntmps20
  go_wp2_with fail
  refine (c1 _ (h.alloc _)).mono ?_
  rintro e w1 ⟨rfl, p1, q1⟩
  have r1 := q1.cell w.heap.size; have s1 := q1.free w.heap.size; have z1 := q1.size; simp at z1
  go_wp2_with fail
  refine (c2 _ p1).mono ?_
  rintro e w2 ⟨rfl, p2, q2⟩
  have r2 := q2.cell w.heap.size; have s2 := q2.free w.heap.size; have z2 := q2.size
  go_wp2_with fail
  refine (c3 _ p2).mono ?_
  rintro e w3 ⟨rfl, p3, q3⟩
  have r3 := q3.cell w.heap.size; have s3 := q3.free w.heap.size; have z3 := q3.size
  have hs1 : w.heap.size < w1.heap.size := by omega
  have hs2 : w.heap.size < w2.heap.size := by omega
  have hs3 : w.heap.size < w3.heap.size := by omega
  have hc3 := p3.cell
  have hf3 := p3.free
  have x0 : w3.cell? ⟨w.heap.size, 0, none⟩ = some (.string ⟨#[]⟩) := by rw [r3 0 hs2 hne, r2 0 hs1 hne, r1 0 (by simp) hne]; simp
  have x1 : w3.cell? ⟨w.heap.size, 1, none⟩ = some (.string ⟨#[]⟩) := by rw [r3 1 hs2 hne, r2 1 hs1 hne, r1 1 (by simp) hne]; simp
  have y0 : w3.frozen? ⟨w.heap.size, 0, none⟩ = false := by rw [s3 0 hs2 hne, s2 0 hs1 hne, s1 0 (by simp) hne]; simp
  have y1 : w3.frozen? ⟨w.heap.size, 1, none⟩ = false := by rw [s3 1 hs2 hne, s2 1 hs1 hne, s1 1 (by simp) hne]; simp
  have qq : Kp b w w3 := (((Kp.refl b w).alloc _).trans q1).trans (q2.trans q3)
  clear r1 r2 r3 s1 s2 s3 q1 q2 q3 c1 c2 c3
  cases k1 with
  | false =>
    have hn : Hid (Sf.number l = (decide (1 ≤ i.length) && decide (i.length ≤ 15), l3)) := show _ = _ by
      simp [Sf.number, H1.out, H2.out, HI.out, H3.out]
    go_wp2_with fail
    all_goals
      refine bodyPost_ret (by simp [results, Tryd.results20, go_sem, x0, x1]; try rfl) rfl ?_
      rw [hn.out]
      exact ⟨_, _, ret_pair (by rw [Bool.eq_iff_iff]; simp; omega), (p3.put hlt _).put hlt _, (qq.put (Nat.le_refl _) _).put (Nat.le_refl _) _⟩
  | true =>
    obtain ⟨f, hf4⟩ : ∃ f, l3.takeWhile Sf.digit = f := ⟨_, rfl⟩
    obtain ⟨l4, hl4⟩ : ∃ l4, l3.dropWhile Sf.digit = l4 := ⟨_, rfl⟩
    rw [hf4, hl4] at c4
    have nf : f.length ≤ l3.length := by rw [← hf4]; exact (List.takeWhile_prefix _).length_le
    have n4 : l4.length ≤ l3.length := by rw [← hl4]; exact (List.dropWhile_suffix _).length_le
    have hn : Hid (Sf.number l = (decide (1 ≤ i.length) && decide (i.length ≤ 12) && decide (1 ≤ f.length) && decide (f.length ≤ 3), l4)) := show _ = _ by
      simp [Sf.number, H1.out, H2.out, HI.out, H3.out, hf4, hl4]
    clear hf4 hl4
    go_wp2_with fail
    refine (c4 _ p3).mono ?_
    rintro e w4 ⟨rfl, p4, q4⟩
    have hs4 : w.heap.size < w4.heap.size := by have := q4.size; omega
    have u0 : w4.cell? ⟨w.heap.size, 0, none⟩ = some (.string ⟨#[]⟩) := by rw [q4.cell _ _ hs3 hne]; exact x0
    have u1 : w4.cell? ⟨w.heap.size, 1, none⟩ = some (.string ⟨#[]⟩) := by rw [q4.cell _ _ hs3 hne]; exact x1
    have v0 : w4.frozen? ⟨w.heap.size, 0, none⟩ = false := by rw [q4.free _ _ hs3 hne]; exact y0
    have v1 : w4.frozen? ⟨w.heap.size, 1, none⟩ = false := by rw [q4.free _ _ hs3 hne]; exact y1
    have qq4 := qq.trans q4
    have hc4 := p4.cell
    have hf4 := p4.free
    clear q4 qq x0 x1 y0 y1 hc3 hf3 p3 c4
    go_wp2_with fail
    all_goals
      refine bodyPost_ret (by simp [results, Tryd.results20, go_sem, u0, u1]; try rfl) rfl ?_
      rw [hn.out]
      exact ⟨_, _, ret_pair (by rw [Bool.eq_iff_iff]; simp; omega), (p4.put hlt _).put hlt _, (qq4.put (Nat.le_refl _) _).put (Nat.le_refl _) _⟩

end Go.Proofs.Qxb6614133aDoor
