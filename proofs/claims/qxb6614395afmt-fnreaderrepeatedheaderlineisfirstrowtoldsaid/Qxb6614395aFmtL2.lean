import Derived.Lib.Bytealg
set_option linter.unusedSimpArgs false
set_option linter.unusedVariables false
namespace Go.Proofs.Qxb6614395aFmt
open Go

/-- One byte more: how many bytes the row has, and whether they end inside quotes. -/
def st1 (s : Nat × Bool) (b : UInt8) : Nat × Bool :=
  let q := if b = 34 then !s.2 else s.2
  if b = 10 ∧ q = false then (0, q) else (s.1 + 1, q)
def adv (s : Nat × Bool) (l : List UInt8) : Nat × Bool := l.foldl st1 s
/-- No row grows over the limit. -/
def fits : Nat × Bool → List UInt8 → Prop
  | _, [] => True
  | s, b :: t => s.1 + 1 ≤ 65536 ∧ fits (st1 s b) t
/-- The first line's bytes, its end counted. -/
def lineLen : List UInt8 → Nat
  | [] => 0
  | b :: t => if b = 10 then 1 else lineLen t + 1

theorem adv_append (s : Nat × Bool) (a b : List UInt8) : adv s (a ++ b) = adv (adv s a) b := by simp [adv]
theorem fits_append : ∀ (a b : List UInt8) (s : Nat × Bool), fits s (a ++ b) ↔ fits s a ∧ fits (adv s a) b
  | [], b, s => by simp [fits, adv]
  | x :: a, b, s => by
    simp only [List.cons_append, fits, fits_append a b (st1 s x)]
    show _ ↔ _ ∧ fits (adv (st1 s x) a) b
    constructor
    · rintro ⟨h1, h2, h3⟩; exact ⟨⟨h1, h2⟩, h3⟩
    · rintro ⟨⟨h1, h2⟩, h3⟩; exact ⟨h1, h2, h3⟩
theorem lineLen_le : ∀ l : List UInt8, lineLen l ≤ l.length
  | [] => Nat.le_refl _
  | b :: t => by
    have := lineLen_le t
    unfold lineLen
    split <;> simp <;> omega
theorem lineLen_pos {l : List UInt8} (h : 0 < l.length) : 0 < lineLen l := by
  cases l with
  | nil => simp at h
  | cons b t => unfold lineLen; split <;> omega

theorem fits_le : ∀ (l : List UInt8) (s : Nat × Bool), fits s l → s.1 ≤ 65536 → (adv s l).1 ≤ 65536
  | [], s, _, h => h
  | b :: t, s, h, hs => by
    refine fits_le t (st1 s b) h.2 ?_
    have := h.1
    unfold st1
    generalize (if b = 34 then !s.2 else s.2) = q
    by_cases e : b = 10 ∧ q = false
    · rw [if_pos e]; exact Nat.zero_le _
    · rw [if_neg e]; exact this

/-- Is the state's second half turned? -/
def odd (l : List UInt8) : Bool := l.count 34 % 2 == 1
theorem odd_cons (b : UInt8) (l : List UInt8) : odd (b :: l) = (if b = 34 then !odd l else odd l) := by
  unfold odd
  rw [List.count_cons]
  by_cases h : b = 34
  · subst h
    simp only [beq_self_eq_true, if_true]
    rcases Nat.mod_two_eq_zero_or_one (List.count 34 l) with e | e <;> simp [Nat.add_mod, e]
  · simp [h]

theorem indexByte_none : ∀ {l : List UInt8} {c : UInt8}, Lib.indexByte l c = -1 → c ∉ l
  | [], c, _ => by simp
  | b :: t, c, h => by
    unfold Lib.indexByte at h
    by_cases e : b = c
    · simp [e] at h
    · have e' : (b == c) = false := by simpa using e
      rw [e'] at h
      simp only [Bool.false_eq_true, if_false] at h
      by_cases e2 : Lib.indexByte t c = -1
      · have := indexByte_none e2
        simp [this, Ne.symm e]
      · have := Lib.indexByte_ge t c
        have e3 : (Lib.indexByte t c == -1) = false := by simpa using e2
        rw [e3] at h
        simp only [Bool.false_eq_true, if_false] at h
        omega
theorem indexByte_some : ∀ {l : List UInt8} {c : UInt8} {j : Nat}, Lib.indexByte l c = (j : Int) → ∃ h : j < l.length, l[j] = c ∧ c ∉ l.take j
  | [], c, j, h => by simp [Lib.indexByte] at h
  | b :: t, c, j, h => by
    unfold Lib.indexByte at h
    by_cases e : b = c
    · simp [e] at h
      have : j = 0 := by omega
      subst this
      exact ⟨by simp, by simp [e], by simp⟩
    · have e' : (b == c) = false := by simpa using e
      rw [e'] at h
      simp only [Bool.false_eq_true, if_false] at h
      by_cases e2 : Lib.indexByte t c = -1
      · rw [e2] at h; simp at h
      · have e3 : (Lib.indexByte t c == -1) = false := by simpa using e2
        rw [e3] at h
        simp only [Bool.false_eq_true, if_false] at h
        obtain ⟨k, rfl⟩ : ∃ k, j = k + 1 := ⟨j - 1, by have := Lib.indexByte_ge t c; omega⟩
        obtain ⟨h1, h2, h3⟩ := indexByte_some (l := t) (c := c) (j := k) (by omega)
        exact ⟨by simpa using h1, by simpa using h2, by simp [h3, Ne.symm e]⟩
theorem indexByte_cases (l : List UInt8) (c : UInt8) : (Lib.indexByte l c = -1 ∧ c ∉ l) ∨ ∃ j, Lib.indexByte l c = ((j : Nat) : Int) ∧ ∃ h : j < l.length, l[j] = c ∧ c ∉ l.take j := by
  have := Lib.indexByte_ge l c
  rcases Int.lt_or_le (Lib.indexByte l c) 0 with h | h
  · have e : Lib.indexByte l c = -1 := by omega
    exact .inl ⟨e, indexByte_none e⟩
  · obtain ⟨j, hj⟩ := Int.eq_ofNat_of_zero_le h
    exact .inr ⟨j, hj, indexByte_some hj⟩

theorem lineLen_none : ∀ {l : List UInt8}, 10 ∉ l → lineLen l = l.length
  | [], _ => rfl
  | b :: t, h => by
    simp at h
    unfold lineLen
    rw [if_neg (Ne.symm h.1), lineLen_none h.2]; rfl
theorem lineLen_some : ∀ {l : List UInt8} {j : Nat} (h : j < l.length), l[j] = 10 → 10 ∉ l.take j → lineLen l = j + 1
  | [], j, h, _, _ => by simp at h
  | b :: t, 0, h, e, _ => by
    simp at e
    unfold lineLen
    rw [if_pos e]
  | b :: t, j + 1, h, e, hn => by
    simp at e hn
    unfold lineLen
    rw [if_neg (Ne.symm hn.1), lineLen_some (l := t) (by simpa using h) e hn.2]

/-- A piece: bytes of one line, the end only at the end. -/
theorem adv_piece : ∀ (p : List UInt8) (s : Nat × Bool), 10 ∉ p → adv s p = (s.1 + p.length, s.2 ^^ odd p) ∧ (fits s p ↔ p = [] ∨ s.1 + p.length ≤ 65536)
  | [], s, _ => by simp [adv, fits, odd]
  | b :: t, s, h => by
    simp at h
    have e : st1 s b = (s.1 + 1, if b = 34 then !s.2 else s.2) := by
      unfold st1
      rw [if_neg (by simp [Ne.symm h.1])]
    have ih := adv_piece t (st1 s b) h.2
    refine ⟨?_, ?_⟩
    · show adv (st1 s b) t = _
      rw [ih.1, e, odd_cons]
      simp only [List.length_cons, Prod.mk.injEq]
      refine ⟨by omega, ?_⟩
      by_cases hb : b = 34
      · simp [hb]
      · simp [hb]
    · unfold fits
      rw [ih.2, e]
      simp only [List.length_cons]
      constructor
      · rintro ⟨h1, h2 | h2⟩
        · subst h2; right; simp; omega
        · right; omega
      · rintro (h1 | h1)
        · cases h1
        · exact ⟨by omega, .inr (by omega)⟩
theorem adv_line (p : List UInt8) (s : Nat × Bool) (h : 10 ∉ p) : adv s (p ++ [10]) = (if (s.2 ^^ odd p) = false then 0 else s.1 + p.length + 1, s.2 ^^ odd p) ∧ (fits s (p ++ [10]) ↔ s.1 + p.length + 1 ≤ 65536) := by
  have hp := adv_piece p s h
  refine ⟨?_, ?_⟩
  · rw [adv_append, hp.1]
    show st1 _ 10 = _
    unfold st1
    simp only [show (10 : UInt8) ≠ 34 by decide, if_false, true_and]
    split <;> simp_all
  · rw [fits_append, hp.1, hp.2]
    simp only [fits, and_true]
    constructor
    · rintro ⟨_, h2⟩; omega
    · intro h1; exact ⟨.inr (by omega), by omega⟩
theorem odd_snoc (p : List UInt8) : odd (p ++ [10]) = odd p := by
  unfold odd; simp [List.count_append]
theorem piece_none {l : List UInt8} (s : Nat × Bool) (h : 10 ∉ l) : adv s (l.take (lineLen l)) = (s.1 + lineLen l, s.2 ^^ odd (l.take (lineLen l))) ∧ (s.1 + lineLen l ≤ 65536 → fits s (l.take (lineLen l))) := by
  have e : l.take (lineLen l) = l := List.take_of_length_le (by rw [lineLen_none h]; exact Nat.le_refl _)
  have := adv_piece l s h
  rw [e, lineLen_none h]
  exact ⟨this.1, fun h1 => this.2.2 (.inr h1)⟩
theorem piece_some {l : List UInt8} (s : Nat × Bool) {j : Nat} (h : j < l.length) (e : l[j] = 10) (hn : 10 ∉ l.take j) :
    adv s (l.take (lineLen l)) = (if (s.2 ^^ odd (l.take (lineLen l))) = false then 0 else s.1 + lineLen l, s.2 ^^ odd (l.take (lineLen l))) ∧ (s.1 + lineLen l ≤ 65536 → fits s (l.take (lineLen l))) := by
  have e1 : l.take (lineLen l) = l.take j ++ [10] := by
    rw [lineLen_some h e hn, List.take_add_one, List.getElem?_eq_getElem h, e]; rfl
  have hl : (l.take j).length = j := by simp; omega
  have := adv_line (l.take j) s hn
  rw [e1, odd_snoc, lineLen_some h e hn]
  rw [hl] at this
  exact ⟨this.1, fun h1 => this.2.2 (by omega)⟩
theorem fits_some {l : List UInt8} (s : Nat × Bool) {j : Nat} (h : j < l.length) (e : l[j] = 10) (hn : 10 ∉ l.take j) (hf : fits s (l.take (j + 1))) : s.1 + (j + 1) ≤ 65536 := by
  have e1 : l.take (j + 1) = l.take j ++ [10] := by
    rw [List.take_add_one, List.getElem?_eq_getElem h, e]; rfl
  have hl : (l.take j).length = j := by simp; omega
  rw [e1] at hf
  have := (adv_line (l.take j) s hn).2.1 hf
  omega
theorem fits_none {l : List UInt8} (s : Nat × Bool) (hn : 10 ∉ l) (h0 : 0 < l.length) (hf : fits s l) : s.1 + l.length ≤ 65536 := by
  rcases (adv_piece l s hn).2.1 hf with h | h
  · subst h; simp at h0
  · exact h
/-- Longer text, no shorter line. -/
theorem lineLen_append : ∀ (a b : List UInt8), lineLen a ≤ lineLen (a ++ b)
  | [], b => Nat.zero_le _
  | x :: a, b => by
    have := lineLen_append a b
    simp only [List.cons_append, lineLen]
    split <;> omega
theorem lineLen_append_none : ∀ {a : List UInt8} (b : List UInt8), 10 ∉ a → lineLen (a ++ b) = a.length + lineLen b
  | [], b, _ => by simp
  | x :: a, b, h => by
    simp at h
    simp only [List.cons_append, lineLen, if_neg (Ne.symm h.1), lineLen_append_none (a := a) b h.2, List.length_cons]
    omega
theorem lineLen_append_some {a b : List UInt8} (h : 10 ∈ a) : lineLen (a ++ b) = lineLen a := by
  induction a with
  | nil => simp at h
  | cons x a ih =>
    simp only [List.cons_append, lineLen]
    by_cases e : x = 10
    · simp [e]
    · have : 10 ∈ a := by simpa [Ne.symm e] using h
      simp [e, ih this]
end Go.Proofs.Qxb6614395aFmt
