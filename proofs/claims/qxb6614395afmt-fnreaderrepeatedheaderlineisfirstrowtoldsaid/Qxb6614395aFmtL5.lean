import Derived.Test.Qxb6614395aFmtL4
set_option linter.unusedSimpArgs false
set_option linter.unusedVariables false
namespace Go.Proofs.Qxb6614395aFmt
open Go

/-- Split at commas, what has been gathered of the field ahead. -/
def spA : List UInt8 → List UInt8 → List (List UInt8)
  | cur, [] => [cur]
  | cur, b :: t => if b = 44 then cur :: spA [] t else spA (cur ++ [b]) t
theorem spA_none : ∀ (l cur : List UInt8), 44 ∉ l → spA cur l = [cur ++ l]
  | [], cur, _ => by simp [spA]
  | b :: t, cur, h => by
    simp at h
    rw [spA, if_neg (Ne.symm h.1), spA_none t _ h.2]
    simp
theorem spA_some : ∀ (a cur x : List UInt8), 44 ∉ a → spA cur (a ++ 44 :: x) = (cur ++ a) :: spA [] x
  | [], cur, x, _ => by simp [spA]
  | b :: t, cur, x, h => by
    simp at h
    rw [List.cons_append, spA, if_neg (Ne.symm h.1), spA_some t _ x h.2]
    simp
/-- Without its end. -/
def strip (l : List UInt8) : List UInt8 := if l.getLast? = some 10 then l.dropLast else l
/-- Without its end, and without one CR ahead of it. -/
def bodyOf (l : List UInt8) : List UInt8 := if (strip l).getLast? = some 13 then (strip l).dropLast else strip l

theorem strip_comma (a c : List UInt8) : strip (a ++ 44 :: c) = a ++ 44 :: strip c := by
  unfold strip
  cases c with
  | nil => simp
  | cons x t =>
    have e1 : (a ++ 44 :: x :: t).getLast? = (x :: t).getLast? := by
      rw [List.getLast?_append, List.getLast?_cons_cons, List.getLast?_cons]
      simp
    rw [e1]
    split
    · rw [List.dropLast_append_of_ne_nil (by simp)]
      rfl
    · rfl
theorem splF_spA : ∀ (f : Nat) (l : List UInt8), l.length < f → splF f l = spA [] (strip l)
  | 0, l, h => by omega
  | f + 1, l, h => by
    rw [splF]
    rcases indexByte_cases l 44 with ⟨h1, h2⟩ | ⟨j, h1, hj, h2, h3⟩
    · rw [if_neg h2]
      have h4 : 44 ∉ strip l := by
        unfold strip
        split
        · exact fun h => h2 (List.dropLast_subset _ h)
        · exact h2
      rw [spA_none _ _ h4]
      rfl
    · have hm : 44 ∈ l := h2 ▸ List.getElem_mem hj
      rw [if_pos hm, h1]
      have hl : l = l.take j ++ 44 :: l.drop (j + 1) := by
        conv => lhs; rw [← List.take_append_drop j l, List.drop_eq_getElem_cons hj, h2]
      have e : strip l = l.take j ++ 44 :: strip (l.drop (j + 1)) := by
        conv => lhs; rw [hl]
        exact strip_comma _ _
      rw [e, spA_some _ _ _ h3]
      simp only [Int.toNat_natCast, List.nil_append]
      rw [splF_spA f _ (by rw [List.length_drop]; omega)]
theorem strip_norm (l : List UInt8) (h : 10 ∉ l.dropLast) : strip (norm l) = bodyOf l := by
  unfold norm bodyOf
  by_cases h1 : l.getLast? = some 10
  · have e : strip l = l.dropLast := by unfold strip; rw [if_pos h1]
    rw [if_pos h1, e]
    by_cases h2 : l.dropLast.getLast? = some 13
    · rw [if_pos h2, if_pos h2]
      unfold strip
      simp
    · rw [if_neg h2, if_neg h2]
      exact e
  · have e : strip l = l := by unfold strip; rw [if_neg h1]
    rw [if_neg h1]
    by_cases h2 : l.getLast? = some 13
    · rw [if_pos h2, e, if_pos h2]
      unfold strip
      rw [if_neg]
      intro h3
      exact h (List.mem_of_getLast? h3)
    · rw [if_neg h2, e, if_neg h2]
theorem strip_nil (l : List UInt8) : strip l = [] ↔ l = [] ∨ l = [10] := by
  unfold strip
  constructor
  · intro h
    split at h
    · rename_i h1
      right
      have hne : l ≠ [] := by rintro rfl; simp at h1
      rw [List.getLast?_eq_some_getLast hne] at h1
      simp at h1
      rw [← List.dropLast_concat_getLast hne, h, h1]
      rfl
    · exact .inl h
  · rintro (rfl | rfl) <;> simp
theorem line_dropLast (rest : List UInt8) : 10 ∉ (rest.take (lineLen rest)).dropLast := by
  by_cases h : 10 ∈ rest
  · rcases indexByte_cases rest 10 with ⟨-, h2⟩ | ⟨j, -, hj, h2, h3⟩
    · exact absurd h h2
    · rw [lineLen_some hj h2 h3, List.take_add_one, List.getElem?_eq_getElem hj]
      have e : rest.take j ++ (some rest[j]).toList = rest.take j ++ [rest[j]] := rfl
      rw [e, List.dropLast_concat]
      exact h3
  · intro h1
    exact h (List.mem_of_mem_take (List.dropLast_subset _ h1))
theorem blank_iff (rest : List UInt8) : (norm (rest.take (lineLen rest)) = [] ∨ norm (rest.take (lineLen rest)) = [10]) ↔ bodyOf (rest.take (lineLen rest)) = [] := by
  rw [← strip_norm _ (line_dropLast rest), strip_nil]
theorem spl_body (rest : List UInt8) : spl (norm (rest.take (lineLen rest))) = spA [] (bodyOf (rest.take (lineLen rest))) := by
  unfold spl
  rw [splF_spA _ _ (by omega), strip_norm _ (line_dropLast rest)]

theorem rr_fuel : ∀ (f f' : Nat) (s : Nat × Bool) (rest : List UInt8) (nl : Nat), rest.length < f → rest.length < f' → rr f s rest nl = rr f' s rest nl
  | 0, _, _, _, _, h, _ => by omega
  | _, 0, _, _, _, _, h => by omega
  | f + 1, f' + 1, s, rest, nl, h, h' => by
    rw [rr, rr]
    by_cases h0 : rest = []
    · rw [if_pos h0, if_pos h0]
    · rw [if_neg h0, if_neg h0]
      have hp : 0 < lineLen rest := lineLen_pos (List.length_pos_iff.2 h0)
      have hpl := List.length_pos_iff.2 h0
      rw [rr_fuel f f' _ (rest.drop (lineLen rest)) (nl + 1) (by rw [List.length_drop]; omega) (by rw [List.length_drop]; omega)]
theorem rr_len : ∀ (f : Nat) (s : Nat × Bool) (rest : List UInt8) (nl : Nat) {flds : List (List UInt8)} {ln : Nat} {s' : Nat × Bool} {rest' : List UInt8}, rr f s rest nl = .ok flds ln s' rest' → rest'.length < rest.length
  | 0, _, _, _, _, _, _, _, h => by simp [rr] at h
  | f + 1, s, rest, nl, flds, ln, s', rest', h => by
    rw [rr] at h
    by_cases h0 : rest = []
    · rw [if_pos h0] at h; cases h
    · rw [if_neg h0] at h
      have hp : 0 < lineLen rest := lineLen_pos (List.length_pos_iff.2 h0)
      have hpl := List.length_pos_iff.2 h0
      split at h
      · cases h
      · split at h
        · have := rr_len f _ _ _ h
          rw [List.length_drop] at this
          omega
        · simp only [RRes.ok.injEq] at h
          obtain ⟨-, -, -, rfl⟩ := h
          rw [List.length_drop]
          omega

/-- The next record. -/
def nxt (s : Nat × Bool) (rest : List UInt8) (nl : Nat) : RRes := rr (rest.length + 1) s rest nl
theorem nxt_eq {f : Nat} {s : Nat × Bool} {rest : List UInt8} {nl : Nat} (h : rest.length < f) : rr f s rest nl = nxt s rest nl := rr_fuel _ _ _ _ _ h (by omega)
theorem nxt_nil (s : Nat × Bool) (nl : Nat) : nxt s [] nl = .err := rr_nil _ _ _
theorem nxt_trip {s : Nat × Bool} {rest : List UInt8} {nl : Nat} (h : 65536 < s.1 + lineLen rest) : nxt s rest nl = .err := rr_trip h
theorem nxt_skip {s : Nat × Bool} {rest : List UInt8} {nl : Nat} (h0 : rest ≠ []) (h : s.1 + lineLen rest ≤ 65536) (he : bodyOf (rest.take (lineLen rest)) = []) :
    nxt s rest nl = nxt (adv s (rest.take (lineLen rest))) (rest.drop (lineLen rest)) (nl + 1) := by
  have hp : 0 < lineLen rest := lineLen_pos (List.length_pos_iff.2 h0)
  have hpl := List.length_pos_iff.2 h0
  rw [nxt, rr_skip h0 h ((blank_iff rest).2 he)]
  exact nxt_eq (by rw [List.length_drop]; omega)
theorem nxt_rec {s : Nat × Bool} {rest : List UInt8} {nl : Nat} (h0 : rest ≠ []) (h : s.1 + lineLen rest ≤ 65536) (he : bodyOf (rest.take (lineLen rest)) ≠ []) :
    nxt s rest nl = .ok (spA [] (bodyOf (rest.take (lineLen rest)))) (nl + 1) (adv s (rest.take (lineLen rest))) (rest.drop (lineLen rest)) := by
  rw [nxt, rr_rec h0 h (fun h => he ((blank_iff rest).1 h)), spl_body]

/-- All records that come. -/
def rowsF : Nat → Nat × Bool → List UInt8 → Nat → List (List (List UInt8) × Nat)
  | 0, _, _, _ => []
  | f + 1, s, rest, nl => match nxt s rest nl with
    | .err => []
    | .ok flds ln s' rest' => (flds, ln) :: rowsF f s' rest' ln
theorem rowsF_fuel : ∀ (f f' : Nat) (s : Nat × Bool) (rest : List UInt8) (nl : Nat), rest.length < f → rest.length < f' → rowsF f s rest nl = rowsF f' s rest nl
  | 0, _, _, _, _, h, _ => by omega
  | _, 0, _, _, _, _, h => by omega
  | f + 1, f' + 1, s, rest, nl, h, h' => by
    rw [rowsF, rowsF]
    cases e : nxt s rest nl with
    | err => rfl
    | ok flds ln s' rest' =>
      have hl : rest'.length < rest.length := rr_len _ _ _ _ e
      simp only []
      rw [rowsF_fuel f f' s' rest' ln (by omega) (by omega)]
def rows (s : Nat × Bool) (rest : List UInt8) (nl : Nat) : List (List (List UInt8) × Nat) := rowsF (rest.length + 1) s rest nl
theorem rows_err {s : Nat × Bool} {rest : List UInt8} {nl : Nat} (h : nxt s rest nl = .err) : rows s rest nl = [] := by
  rw [rows, rowsF, h]
theorem rows_ok {s s' : Nat × Bool} {rest rest' : List UInt8} {nl ln : Nat} {flds : List (List UInt8)} (h : nxt s rest nl = .ok flds ln s' rest') : rows s rest nl = (flds, ln) :: rows s' rest' ln := by
  have hl : rest'.length < rest.length := rr_len _ _ _ _ h
  rw [rows, rowsF, h]
  simp only [List.cons.injEq, true_and]
  exact rowsF_fuel _ _ _ _ _ (by omega) (by omega)
theorem rows_same {s s' : Nat × Bool} {rest rest' : List UInt8} {nl nl' : Nat} (h : nxt s rest nl = nxt s' rest' nl') : rows s rest nl = rows s' rest' nl' := by
  cases e : nxt s rest nl with
  | err => rw [rows_err e, rows_err (h.symm.trans e)]
  | ok flds ln s2 r2 =>
    rw [rows_ok e]
    exact (rows_ok (h.symm.trans e)).symm

/-- The state behind a line without quotes. -/
theorem adv_noq {k : Nat} {rest : List UInt8} (h : 34 ∉ rest) (h' : rest.drop (lineLen rest) ≠ []) : adv (k, false) (rest.take (lineLen rest)) = (0, false) := by
  have ho : odd (rest.take (lineLen rest)) = false := by
    unfold odd
    rw [List.count_eq_zero_of_not_mem (fun hm => h (List.mem_of_mem_take hm))]
    rfl
  rcases indexByte_cases rest 10 with ⟨-, h2⟩ | ⟨j, -, hj, h2, h3⟩
  · exfalso
    apply h'
    rw [lineLen_none h2]
    simp
  · rw [(piece_some (k, false) hj h2 h3).1, ho]
    rfl
theorem nxt_noq {k : Nat} {rest : List UInt8} {nl : Nat} (h : 34 ∉ rest) : nxt (adv (k, false) (rest.take (lineLen rest))) (rest.drop (lineLen rest)) nl = nxt (0, false) (rest.drop (lineLen rest)) nl := by
  by_cases h' : rest.drop (lineLen rest) = []
  · rw [h', nxt_nil, nxt_nil]
  · rw [adv_noq h h']

/-- The model by lines; k: how many bytes of the mark lie ahead. -/
def md (hdr : List (List UInt8)) : Nat → Nat → List UInt8 → Nat → Bool → List (List (List UInt8) × Nat)
  | 0, _, _, _, _ => []
  | f + 1, k, rest, no, hh =>
    if k = 0 ∧ rest = [] then [] else if 65536 < k + lineLen rest then []
    else if bodyOf (rest.take (lineLen rest)) = [] then md hdr f 0 (rest.drop (lineLen rest)) (no + 1) hh
    else if hh = true then (spA [] (bodyOf (rest.take (lineLen rest))), no + 1) :: md hdr f 0 (rest.drop (lineLen rest)) (no + 1) true
    else if spA [] (bodyOf (rest.take (lineLen rest))) = hdr then md hdr f 0 (rest.drop (lineLen rest)) (no + 1) true else []
theorem md_nil (hdr : List (List UInt8)) (f no : Nat) (hh : Bool) : md hdr f 0 [] no hh = [] := by
  cases f <;> simp [md]
theorem md_rows (hdr : List (List UInt8)) : ∀ (f k : Nat) (rest : List UInt8) (no : Nat), rest.length < f → 34 ∉ rest → k ≤ 65536 → md hdr f k rest no true = rows (k, false) rest no
  | 0, _, _, _, h, _, _ => by omega
  | f + 1, k, rest, no, h, h34, hk => by
    by_cases h0 : rest = []
    · subst h0
      rw [rows_err (nxt_nil _ _), md]
      simp [lineLen, bodyOf, strip, md_nil]
    · have hp : 0 < lineLen rest := lineLen_pos (List.length_pos_iff.2 h0)
      have hpl := List.length_pos_iff.2 h0
      have h34' : 34 ∉ rest.drop (lineLen rest) := fun hm => h34 (List.mem_of_mem_drop hm)
      rw [md, if_neg (fun h => h0 h.2)]
      by_cases ht : 65536 < k + lineLen rest
      · rw [if_pos ht, rows_err (nxt_trip ht)]
      · rw [if_neg ht, md_rows hdr f 0 (rest.drop (lineLen rest)) (no + 1) (by rw [List.length_drop]; omega) h34' (by omega)]
        by_cases hb : bodyOf (rest.take (lineLen rest)) = []
        · rw [if_pos hb]
          refine rows_same ?_
          rw [nxt_skip (s := (k, false)) h0 (by simpa using ht) hb]
          exact (nxt_noq h34).symm
        · rw [if_neg hb, if_pos rfl, rows_ok (nxt_rec (s := (k, false)) h0 (by simpa using ht) hb)]
          congr 1
          exact rows_same (nxt_noq h34).symm
/-- With the header still to come. -/
theorem md_hdr (hdr : List (List UInt8)) : ∀ (f k : Nat) (rest : List UInt8) (no : Nat), rest.length < f → 34 ∉ rest → k ≤ 65536 → md hdr f k rest no false = (match nxt (k, false) rest no with
    | .err => []
    | .ok flds ln s' rest' => if flds = hdr then rows s' rest' ln else [])
  | 0, _, _, _, h, _, _ => by omega
  | f + 1, k, rest, no, h, h34, hk => by
    by_cases h0 : rest = []
    · subst h0
      rw [nxt_nil, md]
      simp [lineLen, bodyOf, strip, md_nil]
    · have hp : 0 < lineLen rest := lineLen_pos (List.length_pos_iff.2 h0)
      have hpl := List.length_pos_iff.2 h0
      have h34' : 34 ∉ rest.drop (lineLen rest) := fun hm => h34 (List.mem_of_mem_drop hm)
      rw [md, if_neg (fun h => h0 h.2)]
      by_cases ht : 65536 < k + lineLen rest
      · rw [if_pos ht, nxt_trip ht]
      · rw [if_neg ht]
        by_cases hb : bodyOf (rest.take (lineLen rest)) = []
        · rw [if_pos hb, md_hdr hdr f 0 (rest.drop (lineLen rest)) (no + 1) (by rw [List.length_drop]; omega) h34' (by omega), nxt_skip (s := (k, false)) h0 (by simpa using ht) hb, nxt_noq h34]
        · rw [if_neg hb, if_neg (by simp), nxt_rec (s := (k, false)) h0 (by simpa using ht) hb]
          simp only []
          by_cases hh : spA [] (bodyOf (rest.take (lineLen rest))) = hdr
          · rw [if_pos hh, if_pos hh, md_rows hdr f 0 _ _ (by rw [List.length_drop]; omega) h34' (by omega)]
            exact rows_same (nxt_noq h34).symm
          · rw [if_neg hh, if_neg hh]
end Go.Proofs.Qxb6614395aFmt
