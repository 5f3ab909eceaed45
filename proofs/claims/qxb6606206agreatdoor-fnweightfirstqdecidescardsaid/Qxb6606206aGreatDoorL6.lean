import Derived.Test.Qxb6606206aGreatDoorL4
import Derived.Test.Qxb6606206aGreatDoorL2
set_option linter.unusedSimpArgs false
set_option linter.unusedVariables false
namespace Go.Proofs.Qxb6606206aGreatDoor
open Go Go.RowKit

/-- A fresh decimal. -/
def dc0 : Dc := ⟨fun _ => 0, 0, 0, false, false⟩
/-- One digit more. -/
def Dc.add (s : Dc) (c : Nat) : Dc :=
  if c = 48 ∧ s.nd = 0 then { s with dp := s.dp - 1 }
  else if s.nd < 800 then { s.put s.nd c with nd := s.nd + 1 }
  else if c = 48 then s else { s with tr := true }
theorem Dc.add_ok {s : Dc} {c : Nat} (h : s.Ok) (hc : 48 ≤ c ∧ c ≤ 57) : (s.add c).Ok := by
  unfold Dc.add
  split
  · exact ⟨h.le, h.dig, h.fst⟩
  · rename_i h1
    split
    · rename_i h2
      refine ⟨by simp only []; omega, ?_, ?_⟩
      · intro i hi
        simp only [Dc.put] at hi ⊢
        split
        · exact hc
        · exact h.dig i (by omega)
      · intro _
        simp only [Dc.put]
        split
        · rename_i e; intro e2; exact h1 ⟨e2, e.symm⟩
        · exact h.fst (by omega)
    · split
      · exact h
      · exact ⟨h.le, h.dig, h.fst⟩
theorem Dc.add_dp {s : Dc} {c : Nat} {i : Nat} (h0 : -(i : Int) ≤ s.dp) (h1 : s.dp ≤ i) : -((i + 1 : Nat) : Int) ≤ (s.add c).dp ∧ (s.add c).dp ≤ ((i + 1 : Nat) : Int) := by
  unfold Dc.add
  split
  · simp only []; omega
  · split
    · show _ ≤ s.dp ∧ s.dp ≤ _; omega
    · split
      · omega
      · simp only []; omega
/-- The digits' loop: none where it returns false. -/
def dl : List UInt8 → Nat → Dc → Bool → Bool → Option (Nat × Dc × Bool × Bool)
  | [], i, s, dot, dig => some (i, s, dot, dig)
  | c :: t, i, s, dot, dig =>
    if (c.toNat : Int) = 95 then dl t (i + 1) s dot dig
    else if (c.toNat : Int) = 46 then (if dot then none else dl t (i + 1) { s with dp := s.nd } true dig)
    else if 48 ≤ (c.toNat : Int) ∧ (c.toNat : Int) ≤ 57 then dl t (i + 1) (s.add c.toNat) dot true
    else some (i, s, dot, dig)
theorem dl_drop {l : List UInt8} {i : Nat} (h : i < l.length) (s : Dc) (dot dig : Bool) : dl (l.drop i) i s dot dig =
    if (l[i].toNat : Int) = 95 then dl (l.drop (i + 1)) (i + 1) s dot dig
    else if (l[i].toNat : Int) = 46 then (if dot then none else dl (l.drop (i + 1)) (i + 1) { s with dp := s.nd } true dig)
    else if 48 ≤ (l[i].toNat : Int) ∧ (l[i].toNat : Int) ≤ 57 then dl (l.drop (i + 1)) (i + 1) (s.add l[i].toNat) dot true
    else some (i, s, dot, dig) := by
  rw [List.drop_eq_getElem_cons h]; rfl
theorem dl_end {l : List UInt8} {i : Nat} (h : l.length ≤ i) (s : Dc) (dot dig : Bool) : dl (l.drop i) i s dot dig = some (i, s, dot, dig) := by
  rw [List.drop_eq_nil_of_le h]; rfl

/-- Behind the exponent. -/
def st4 (l : List UInt8) (i : Nat) (s : Dc) : Option Dc := if i = l.length then some s else none
/-- Behind the exponent's sign. -/
def st3 (l : List UInt8) (i : Nat) (s : Dc) (sg : Int) : Option Dc :=
  if i < l.length ∧ 48 ≤ gt l i ∧ gt l i ≤ 57 then st4 l (el (l.drop i) i 0 false).1 { s with dp := s.dp + (el (l.drop i) i 0 false).2.1 * sg } else none
/-- At the exponent. -/
def st2 (l : List UInt8) (i : Nat) (s : Dc) : Option Dc :=
  if i < l.length ∧ lowI (gt l i) = 101 then
    (if i + 1 < l.length then
      (if gt l (i + 1) = 43 then st3 l (i + 2) s 1 else if gt l (i + 1) = 45 then st3 l (i + 2) s (-1) else st3 l (i + 1) s 1)
     else none)
  else st4 l i s
/-- Behind the digits. -/
def st1 (l : List UInt8) : Option (Nat × Dc × Bool × Bool) → Option Dc
  | none => none
  | some (i, s, dot, dig) => if dig then st2 l i (if dot then s else { s with dp := s.nd }) else none
def st0 (l : List UInt8) (neg : Bool) (i : Nat) : Option Dc := st1 l (dl (l.drop i) i { dc0 with neg := neg } false false)
def st : List UInt8 → Option Dc
  | [] => none
  | c :: t => if c = 43 then st0 (c :: t) false 1 else if c = 45 then st0 (c :: t) true 1 else st0 (c :: t) false 0

theorem el_und : ∀ (l : List UInt8) (i : Nat) (e : Int) (u v : Bool), (el l i e u).1 = (el l i e v).1 ∧ (el l i e u).2.1 = (el l i e v).2.1
  | [], i, e, u, v => ⟨rfl, rfl⟩
  | c :: t, i, e, u, v => by
    unfold el
    split
    · exact ⟨rfl, rfl⟩
    · split
      · exact el_und t _ _ u v
      · exact ⟨rfl, rfl⟩
/-- What 'set' leaves. -/
structure SOk (s : Dc) : Prop where
  ok : s.Ok
  dp0 : -100000000000 ≤ s.dp
  dp1 : s.dp ≤ 100000000000
theorem SOk.dp {s : Dc} (h : SOk s) {x : Int} (h0 : -100000000000 ≤ x) (h1 : x ≤ 100000000000) : SOk { s with dp := x } := ⟨⟨h.ok.le, h.ok.dig, h.ok.fst⟩, h0, h1⟩
theorem st4_ok {l : List UInt8} {i : Nat} {s s' : Dc} (h : SOk s) (e : st4 l i s = some s') : SOk s' := by
  unfold st4 at e
  split at e
  · cases e; exact h
  · cases e
theorem st3_ok {l : List UInt8} {i : Nat} {s s' : Dc} {sg : Int} (hs : sg = 1 ∨ sg = -1) (h : SOk s) (h0 : -10000000000 ≤ s.dp) (h1 : s.dp ≤ 10000000000) (e : st3 l i s sg = some s') : SOk s' := by
  unfold st3 at e
  split at e
  · have := el_ok (l.drop i) i 0 false (by omega) (by omega)
    refine st4_ok (h.dp ?_ ?_) e
    · rcases hs with rfl | rfl <;> omega
    · rcases hs with rfl | rfl <;> omega
  · cases e
theorem st2_ok {l : List UInt8} {i : Nat} {s s' : Dc} (h : SOk s) (h0 : -10000000000 ≤ s.dp) (h1 : s.dp ≤ 10000000000) (e : st2 l i s = some s') : SOk s' := by
  unfold st2 at e
  split at e
  · split at e
    · split at e
      · exact st3_ok (.inl rfl) h h0 h1 e
      · split at e
        · exact st3_ok (.inr rfl) h h0 h1 e
        · exact st3_ok (.inl rfl) h h0 h1 e
    · cases e
  · exact st4_ok h e
theorem dl_ok : ∀ (l : List UInt8) (i : Nat) (s : Dc) (dot dig : Bool) (i' : Nat) (s' : Dc) (dot' dig' : Bool), s.Ok → -(i : Int) ≤ s.dp → s.dp ≤ i → s.nd ≤ i → dl l i s dot dig = some (i', s', dot', dig') →
    s'.Ok ∧ -(i' : Int) ≤ s'.dp ∧ s'.dp ≤ i' ∧ i' ≤ i + l.length
  | [], i, s, dot, dig, i', s', dot', dig', hs, h0, h1, hn, e => by
    simp only [dl, Option.some.injEq, Prod.mk.injEq] at e
    obtain ⟨rfl, rfl, rfl, rfl⟩ := e
    exact ⟨hs, h0, h1, by simp⟩
  | c :: t, i, s, dot, dig, i', s', dot', dig', hs, h0, h1, hn, e => by
    unfold dl at e
    rw [List.length_cons]
    split at e
    · have := dl_ok t (i + 1) s dot dig i' s' dot' dig' hs (by omega) (by omega) (by omega) e
      exact ⟨this.1, this.2.1, this.2.2.1, by omega⟩
    · split at e
      · split at e
        · cases e
        · have := dl_ok t (i + 1) { s with dp := s.nd } true dig i' s' dot' dig' ⟨hs.le, hs.dig, hs.fst⟩ (by simp only []; omega) (by simp only []; omega) (by simp only []; omega) e
          exact ⟨this.1, this.2.1, this.2.2.1, by omega⟩
      · split at e
        · rename_i hd
          have hb := Dc.add_dp (c := c.toNat) h0 h1
          have hnd : (s.add c.toNat).nd ≤ i + 1 := by
            unfold Dc.add
            split
            · simp only []; omega
            · split
              · simp only []; omega
              · split
                · omega
                · simp only []; omega
          have := dl_ok t (i + 1) (s.add c.toNat) dot true i' s' dot' dig' (Dc.add_ok hs (by omega)) hb.1 hb.2 hnd e
          exact ⟨this.1, this.2.1, this.2.2.1, by omega⟩
        · simp only [Option.some.injEq, Prod.mk.injEq] at e
          obtain ⟨rfl, rfl, rfl, rfl⟩ := e
          exact ⟨hs, h0, h1, by omega⟩
theorem dc0_ok (neg : Bool) : ({ dc0 with neg := neg } : Dc).Ok := ⟨by simp [dc0], by simp [dc0], by simp [dc0]⟩
theorem st0_ok {l : List UInt8} {neg : Bool} {i : Nat} {s' : Dc} (hl : l.length ≤ 1000000000) (hi : i ≤ l.length) (e : st0 l neg i = some s') : SOk s' := by
  unfold st0 at e
  cases h : dl (l.drop i) i { dc0 with neg := neg } false false with
  | none => rw [h] at e; cases e
  | some r =>
    obtain ⟨i', s, dot, dig⟩ := r
    rw [h] at e
    have hd := dl_ok _ _ _ _ _ _ _ _ _ (dc0_ok neg) (by simp [dc0]) (by simp [dc0]) (by simp [dc0]) h
    rw [List.length_drop] at hd
    have hnd := hd.1.le
    cases dig with
    | false => exact absurd (show (none : Option Dc) = some s' from e) (by simp)
    | true =>
      cases dot with
      | true => exact st2_ok ⟨hd.1, by omega, by omega⟩ (by omega) (by omega) (show st2 l i' s = some s' from e)
      | false => exact st2_ok (s := { s with dp := s.nd }) ⟨⟨hd.1.le, hd.1.dig, hd.1.fst⟩, by simp only []; omega, by simp only []; omega⟩ (by simp only []; omega) (by simp only []; omega) (show st2 l i' { s with dp := s.nd } = some s' from e)
theorem st_ok {l : List UInt8} {s' : Dc} (hl : l.length ≤ 1000000000) (e : st l = some s') : SOk s' := by
  cases l with
  | nil => cases e
  | cons c t =>
    rw [st] at e
    by_cases h1 : c = 43
    · rw [if_pos h1] at e; exact st0_ok hl (by simp) e
    · rw [if_neg h1] at e
      by_cases h2 : c = 45
      · rw [if_pos h2] at e; exact st0_ok hl (by simp) e
      · rw [if_neg h2] at e; exact st0_ok hl (by simp) e
end Go.Proofs.Qxb6606206aGreatDoor
