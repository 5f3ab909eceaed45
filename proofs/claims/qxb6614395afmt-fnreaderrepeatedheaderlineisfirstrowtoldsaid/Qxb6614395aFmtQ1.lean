import Derived.Test.Qxb6614395aFmtL3
set_option linter.unusedSimpArgs false
set_option linter.unusedVariables false
namespace Go.Proofs.Qxb6614395aFmt
open Go

/-- A record's reading: an error; or the fields, the line on which the record begins and how many lines were read (both counted from where the reading began), and what is left. -/
inductive QRes where
  | err : QRes
  | ok (fields : List (List UInt8)) (a b : Nat) (s : Nat × Bool) (rest : List UInt8) : QRes

/-- The bytes of a line's end. -/
def nle (l : List UInt8) : Nat := if l.getLast? = some 10 then 1 else 0
def idx (l : List UInt8) (c : UInt8) : Nat := (Lib.indexByte l c).toNat
theorem idx_lt {l : List UInt8} {c : UInt8} (h : c ∈ l) : idx l c < l.length := by
  rcases indexByte_cases l c with ⟨e, hno⟩ | ⟨j, e, hj, -⟩
  · exact absurd h hno
  · unfold idx; rw [e]; exact hj
theorem norm_length (x : List UInt8) : (norm x).length ≤ x.length := by
  unfold norm
  split
  · split
    · rename_i h1 h2
      have : 2 ≤ x.length := by
        match x, h1, h2 with
        | [], h1, _ => simp at h1
        | [a], _, h2 => simp at h2
        | a :: b :: t, _, _ => simp
      simp; omega
    · exact Nat.le_refl _
  · split
    · simp
    · exact Nat.le_refl _

/-- A record taken apart: acc are the fields before; cur is none ahead of a field, and inside quotes what stands there already; ln is the line's rest. -/
def par (acc : List (List UInt8)) (cur : Option (List UInt8)) (ln : List UInt8) (s : Nat × Bool) (rest : List UInt8) (a b : Nat) : QRes :=
  match cur with
  | none =>
    if h : ln.head? = some 34 then par acc (some []) (ln.drop 1) s rest a b
    else if h : 44 ∈ ln then
      if 34 ∈ ln.take (idx ln 44) then .err else par (acc ++ [ln.take (idx ln 44)]) none (ln.drop (idx ln 44 + 1)) s rest a b
    else if 34 ∈ ln.take (ln.length - nle ln) then .err else .ok (acc ++ [ln.take (ln.length - nle ln)]) a b s rest
  | some c =>
    if h : 34 ∈ ln then
      if h2 : (ln.drop (idx ln 34 + 1)).head? = some 34 then par acc (some (c ++ ln.take (idx ln 34) ++ [34])) ((ln.drop (idx ln 34 + 1)).drop 1) s rest a b
      else if (ln.drop (idx ln 34 + 1)).head? = some 44 then par (acc ++ [c ++ ln.take (idx ln 34)]) none ((ln.drop (idx ln 34 + 1)).drop 1) s rest a b
      else if ln.drop (idx ln 34 + 1) = [] ∨ ln.drop (idx ln 34 + 1) = [10] then .ok (acc ++ [c ++ ln.take (idx ln 34)]) a b s rest
      else .err
    else if h : ln = [] then .err
    else if h2 : rest = [] then .err
    else if 65536 < s.1 + lineLen rest then .err
    else par acc (some (c ++ ln)) (norm (rest.take (lineLen rest))) (adv s (rest.take (lineLen rest))) (rest.drop (lineLen rest)) a (b + 1)
termination_by ln.length + rest.length
decreasing_by
  · have : ln ≠ [] := by rintro rfl; simp at h
    have := List.length_pos_iff.2 this
    simp only [List.length_drop]; omega
  · have := idx_lt h
    simp only [List.length_drop]; omega
  · have := idx_lt h
    simp only [List.length_drop]; omega
  · have := idx_lt h
    simp only [List.length_drop]; omega
  · have := List.length_pos_iff.2 h
    have h1 := norm_length (rest.take (lineLen rest))
    have h2 := lineLen_le rest
    rw [List.length_take] at h1
    simp only [List.length_drop]; omega

/-- The next record: empty lines are passed over. -/
def qx (s : Nat × Bool) (rest : List UInt8) (b : Nat) : QRes :=
  if h : rest = [] then .err else if 65536 < s.1 + lineLen rest then .err
  else if norm (rest.take (lineLen rest)) = [] ∨ norm (rest.take (lineLen rest)) = [10] then qx (adv s (rest.take (lineLen rest))) (rest.drop (lineLen rest)) (b + 1)
  else par [] none (norm (rest.take (lineLen rest))) (adv s (rest.take (lineLen rest))) (rest.drop (lineLen rest)) (b + 1) (b + 1)
termination_by rest.length
decreasing_by
  have := lineLen_pos (List.length_pos_iff.2 h)
  have := List.length_pos_iff.2 h
  simp only [List.length_drop]; omega

section
variable {acc : List (List UInt8)} {c ln : List UInt8} {s : Nat × Bool} {rest : List UInt8} {a b : Nat}
theorem par_open (h : ln.head? = some 34) : par acc none ln s rest a b = par acc (some []) (ln.drop 1) s rest a b := by
  rw [par]; simp only [h, dite_true]
theorem par_comma (h : ln.head? ≠ some 34) (h1 : 44 ∈ ln) (h2 : 34 ∉ ln.take (idx ln 44)) : par acc none ln s rest a b = par (acc ++ [ln.take (idx ln 44)]) none (ln.drop (idx ln 44 + 1)) s rest a b := by
  rw [par]; simp only [h, h1, h2, dite_true, dite_false, if_false]
theorem par_comma_bad (h : ln.head? ≠ some 34) (h1 : 44 ∈ ln) (h2 : 34 ∈ ln.take (idx ln 44)) : par acc none ln s rest a b = .err := by
  rw [par]; simp only [h, h1, h2, dite_true, dite_false, if_true]
theorem par_last (h : ln.head? ≠ some 34) (h1 : 44 ∉ ln) (h2 : 34 ∉ ln.take (ln.length - nle ln)) : par acc none ln s rest a b = .ok (acc ++ [ln.take (ln.length - nle ln)]) a b s rest := by
  rw [par]; simp only [h, h1, h2, dite_true, dite_false, if_false]
theorem par_last_bad (h : ln.head? ≠ some 34) (h1 : 44 ∉ ln) (h2 : 34 ∈ ln.take (ln.length - nle ln)) : par acc none ln s rest a b = .err := by
  rw [par]; simp only [h, h1, h2, dite_true, dite_false, if_true]
theorem par_two (h : 34 ∈ ln) (h1 : (ln.drop (idx ln 34 + 1)).head? = some 34) : par acc (some c) ln s rest a b = par acc (some (c ++ ln.take (idx ln 34) ++ [34])) ((ln.drop (idx ln 34 + 1)).drop 1) s rest a b := by
  rw [par]; simp only [h, h1, dite_true]
theorem par_shut (h : 34 ∈ ln) (h1 : (ln.drop (idx ln 34 + 1)).head? = some 44) : par acc (some c) ln s rest a b = par (acc ++ [c ++ ln.take (idx ln 34)]) none ((ln.drop (idx ln 34 + 1)).drop 1) s rest a b := by
  have h2 : ¬ (ln.drop (idx ln 34 + 1)).head? = some 34 := by rw [h1]; decide
  conv => lhs; rw [par]
  rw [dif_pos h, dif_neg h2, if_pos h1]
theorem par_end (h : 34 ∈ ln) (h1 : ln.drop (idx ln 34 + 1) = [] ∨ ln.drop (idx ln 34 + 1) = [10]) : par acc (some c) ln s rest a b = .ok (acc ++ [c ++ ln.take (idx ln 34)]) a b s rest := by
  rw [par]
  have h2 : ¬ (ln.drop (idx ln 34 + 1)).head? = some 34 := by rcases h1 with h1 | h1 <;> rw [h1] <;> decide
  have h3 : ¬ (ln.drop (idx ln 34 + 1)).head? = some 44 := by rcases h1 with h1 | h1 <;> rw [h1] <;> decide
  simp only [h, h2, h3, h1, dite_true, dite_false, if_true, if_false]
theorem par_bad (h : 34 ∈ ln) (h2 : (ln.drop (idx ln 34 + 1)).head? ≠ some 34) (h3 : (ln.drop (idx ln 34 + 1)).head? ≠ some 44) (h1 : ¬ (ln.drop (idx ln 34 + 1) = [] ∨ ln.drop (idx ln 34 + 1) = [10])) : par acc (some c) ln s rest a b = .err := by
  rw [par]
  simp only [h, h2, h3, h1, dite_true, dite_false, if_true, if_false]
theorem par_nil : par acc (some c) [] s rest a b = .err := by
  rw [par]; simp
theorem par_eof (h : 34 ∉ ln) : par acc (some c) ln s [] a b = .err := by
  rw [par]; simp [h]
theorem par_trip (h : 34 ∉ ln) (h1 : 65536 < s.1 + lineLen rest) : par acc (some c) ln s rest a b = .err := by
  rw [par]; simp [h, h1]
theorem par_more (h : 34 ∉ ln) (h0 : ln ≠ []) (h1 : rest ≠ []) (h2 : s.1 + lineLen rest ≤ 65536) :
    par acc (some c) ln s rest a b = par acc (some (c ++ ln)) (norm (rest.take (lineLen rest))) (adv s (rest.take (lineLen rest))) (rest.drop (lineLen rest)) a (b + 1) := by
  rw [par]
  have h3 : ¬ 65536 < s.1 + lineLen rest := by omega
  simp only [h, h0, h1, h3, dite_true, dite_false, if_true, if_false]
theorem qx_nil : qx s [] b = .err := by rw [qx]; simp
theorem qx_trip (h : 65536 < s.1 + lineLen rest) : qx s rest b = .err := by rw [qx]; simp [h]
theorem qx_skip (h0 : rest ≠ []) (h : s.1 + lineLen rest ≤ 65536) (he : norm (rest.take (lineLen rest)) = [] ∨ norm (rest.take (lineLen rest)) = [10]) :
    qx s rest b = qx (adv s (rest.take (lineLen rest))) (rest.drop (lineLen rest)) (b + 1) := by
  rw [qx, dif_neg h0, if_neg (by omega), if_pos he]
theorem qx_rec (h0 : rest ≠ []) (h : s.1 + lineLen rest ≤ 65536) (he : ¬ (norm (rest.take (lineLen rest)) = [] ∨ norm (rest.take (lineLen rest)) = [10])) :
    qx s rest b = par [] none (norm (rest.take (lineLen rest))) (adv s (rest.take (lineLen rest))) (rest.drop (lineLen rest)) (b + 1) (b + 1) := by
  rw [qx, dif_neg h0, if_neg (by omega), if_neg he]
end

/-- What is left is no longer than what was there. -/
theorem par_le : ∀ (n : Nat) (acc : List (List UInt8)) (cur : Option (List UInt8)) (ln : List UInt8) (s : Nat × Bool) (rest : List UInt8) (a b : Nat), ln.length + rest.length ≤ n → ∀ {flds a' b' s' rest'}, par acc cur ln s rest a b = .ok flds a' b' s' rest' → rest'.length ≤ rest.length ∧ b' + rest'.length ≤ b + rest.length ∧ b ≤ b' := by
  intro n
  induction n with
  | zero =>
    intro acc cur ln s rest a b hn flds a' b' s' rest' h
    have hl : ln = [] := List.eq_nil_of_length_eq_zero (by omega)
    subst hl
    cases cur with
    | none =>
      rw [par_last (by simp) (by simp) (by simp)] at h
      simp only [QRes.ok.injEq] at h
      obtain ⟨-, -, rfl, -, rfl⟩ := h
      omega
    | some c => rw [par_nil] at h; cases h
  | succ n ih =>
    intro acc cur ln s rest a b hn flds a' b' s' rest' h
    cases cur with
    | none =>
      by_cases h0 : ln.head? = some 34
      · rw [par_open h0] at h
        have hp : 0 < ln.length := by cases ln; simp at h0; simp
        exact ih _ _ _ _ _ _ _ (by rw [List.length_drop]; omega) h
      · by_cases h1 : 44 ∈ ln
        · by_cases h2 : 34 ∈ ln.take (idx ln 44)
          · rw [par_comma_bad h0 h1 h2] at h; cases h
          · rw [par_comma h0 h1 h2] at h
            have := idx_lt h1
            exact ih _ _ _ _ _ _ _ (by rw [List.length_drop]; omega) h
        · by_cases h2 : 34 ∈ ln.take (ln.length - nle ln)
          · rw [par_last_bad h0 h1 h2] at h; cases h
          · rw [par_last h0 h1 h2] at h
            simp only [QRes.ok.injEq] at h
            obtain ⟨-, -, rfl, -, rfl⟩ := h
            omega
    | some c =>
      by_cases h0 : 34 ∈ ln
      · have := idx_lt h0
        by_cases h1 : (ln.drop (idx ln 34 + 1)).head? = some 34
        · rw [par_two h0 h1] at h
          exact ih _ _ _ _ _ _ _ (by rw [List.length_drop, List.length_drop]; omega) h
        · by_cases h2 : (ln.drop (idx ln 34 + 1)).head? = some 44
          · rw [par_shut h0 h2] at h
            exact ih _ _ _ _ _ _ _ (by rw [List.length_drop, List.length_drop]; omega) h
          · by_cases h3 : ln.drop (idx ln 34 + 1) = [] ∨ ln.drop (idx ln 34 + 1) = [10]
            · rw [par_end h0 h3] at h
              simp only [QRes.ok.injEq] at h
              obtain ⟨-, -, rfl, -, rfl⟩ := h
              omega
            · rw [par_bad h0 h1 h2 h3] at h; cases h
      · by_cases h1 : ln = []
        · subst h1; rw [par_nil] at h; cases h
        · by_cases h2 : rest = []
          · subst h2; rw [par_eof h0] at h; cases h
          · by_cases h3 : 65536 < s.1 + lineLen rest
            · rw [par_trip h0 h3] at h; cases h
            · rw [par_more h0 h1 h2 (by omega)] at h
              have h4 := List.length_pos_iff.2 h1
              have h5 := norm_length (rest.take (lineLen rest))
              have h6 := lineLen_le rest
              have h7 := lineLen_pos (List.length_pos_iff.2 h2)
              rw [List.length_take] at h5
              have := ih _ _ _ _ _ _ _ (by rw [List.length_drop]; omega) h
              rw [List.length_drop] at this
              omega
theorem qx_le : ∀ (n : Nat) (s : Nat × Bool) (rest : List UInt8) (b : Nat), rest.length ≤ n → ∀ {flds a' b' s' rest'}, qx s rest b = .ok flds a' b' s' rest' → rest'.length < rest.length ∧ b' + rest'.length ≤ b + rest.length := by
  intro n
  induction n with
  | zero =>
    intro s rest b hn flds a' b' s' rest' h
    rw [List.eq_nil_of_length_eq_zero (by omega : rest.length = 0), qx_nil] at h
    cases h
  | succ n ih =>
    intro s rest b hn flds a' b' s' rest' h
    by_cases h2 : rest = []
    · subst h2; rw [qx_nil] at h; cases h
    · by_cases h3 : 65536 < s.1 + lineLen rest
      · rw [qx_trip h3] at h; cases h
      · have h7 := lineLen_pos (List.length_pos_iff.2 h2)
        have h8 := List.length_pos_iff.2 h2
        have h6 := lineLen_le rest
        by_cases h4 : norm (rest.take (lineLen rest)) = [] ∨ norm (rest.take (lineLen rest)) = [10]
        · rw [qx_skip h2 (by omega) h4] at h
          have := ih _ _ _ (by rw [List.length_drop]; omega) h
          rw [List.length_drop] at this
          omega
        · rw [qx_rec h2 (by omega) h4] at h
          have := par_le _ _ _ _ _ _ _ _ (Nat.le_refl _) h
          rw [List.length_drop] at this
          omega
end Go.Proofs.Qxb6614395aFmt
