import Derived.Test.Qxb6614395aFmtQ1
set_option linter.unusedSimpArgs false
set_option linter.unusedVariables false
namespace Go.Proofs.Qxb6614395aFmt
open Go

/-- Texts joined by commas. -/
def jn : List (List UInt8) → List UInt8
  | [] => []
  | x :: t => x ++ (t.map fun y => 44 :: y).flatten
theorem jn_snoc (xs : List (List UInt8)) (y : List UInt8) : jn (xs ++ [y]) = if xs = [] then y else jn xs ++ 44 :: y := by
  cases xs with
  | nil => simp [jn]
  | cons x t => simp [jn]
theorem jn_len (xs : List (List UInt8)) : (jn xs).length ≤ xs.flatten.length + xs.length := by
  cases xs with
  | nil => simp [jn]
  | cons x t =>
    have : ∀ t : List (List UInt8), ((t.map fun y => 44 :: y).flatten).length = t.flatten.length + t.length := by
      intro t
      induction t with
      | nil => rfl
      | cons y t ih => simp only [List.map_cons, List.flatten_cons, List.length_append, List.length_cons, ih]; omega
    simp only [jn, List.length_append, this, List.flatten_cons, List.length_cons]
    omega
/-- No byte of the texts is a comma, a quote or a line's end. -/
def Clean (xs : List (List UInt8)) : Prop := ∀ x ∈ xs, 44 ∉ x ∧ 34 ∉ x ∧ 10 ∉ x ∧ 13 ∉ x
theorem jn_mem {xs : List (List UInt8)} (h : Clean xs) {b : UInt8} (hb : b ∈ jn xs) : b ≠ 34 ∧ b ≠ 10 ∧ b ≠ 13 := by
  have key : b = 44 ∨ ∃ x ∈ xs, b ∈ x := by
    cases xs with
    | nil => simp [jn] at hb
    | cons x t =>
      simp only [jn, List.mem_append, List.mem_flatten, List.mem_map] at hb
      rcases hb with h1 | ⟨l, ⟨y, hy, rfl⟩, hl⟩
      · exact .inr ⟨x, by simp, h1⟩
      · rcases List.mem_cons.1 hl with h2 | h2
        · exact .inl h2
        · exact .inr ⟨y, by simp [hy], h2⟩
  rcases key with rfl | ⟨x, hx, hbx⟩
  · decide
  · obtain ⟨-, h2, h3, h4⟩ := h x hx
    exact ⟨fun e => h2 (e ▸ hbx), fun e => h3 (e ▸ hbx), fun e => h4 (e ▸ hbx)⟩
theorem idx_at {p q : List UInt8} (h : 44 ∉ p) : idx (p ++ 44 :: q) 44 = p.length := by
  have hin : 44 ∈ p ++ 44 :: q := by simp
  rcases indexByte_cases (p ++ 44 :: q) 44 with ⟨-, hno⟩ | ⟨j, e, hj, hj2, hj3⟩
  · exact absurd hin hno
  · have : idx (p ++ 44 :: q) 44 = j := by unfold idx; rw [e]; rfl
    rw [this]
    rcases Nat.lt_trichotomy j p.length with h1 | h1 | h1
    · rw [List.getElem_append_left h1] at hj2
      exact absurd (hj2 ▸ List.getElem_mem h1) h
    · exact h1
    · exfalso
      apply hj3
      rw [List.take_append]
      refine List.mem_append_right _ ?_
      have : 0 < j - p.length := by omega
      obtain ⟨k, hk⟩ : ∃ k, j - p.length = k + 1 := ⟨j - p.length - 1, by omega⟩
      rw [hk]
      simp
theorem par_jn (s : Nat × Bool) (rest : List UInt8) (a b : Nat) : ∀ (xs acc : List (List UInt8)), xs ≠ [] → Clean xs → par acc none (jn xs ++ [10]) s rest a b = .ok (acc ++ xs) a b s rest
  | [], _, h, _ => absurd rfl h
  | [x], acc, _, hc => by
    obtain ⟨h1, h2, h3, h4⟩ := hc x (by simp)
    have e : jn [x] = x := by simp [jn]
    rw [e]
    have hn : nle (x ++ [10]) = 1 := by unfold nle; simp
    have ht : (x ++ [10]).take ((x ++ [10]).length - nle (x ++ [10])) = x := by rw [hn]; simp
    rw [par_last (ln := x ++ [10]) ?_ ?_ ?_, ht]
    · cases x with
      | nil => decide
      | cons c t =>
        simp only [List.cons_append, List.head?_cons, ne_eq, Option.some.injEq]
        intro e; apply h2; rw [e]; simp
    · simp [h1]
    · rw [ht]; exact h2
  | x :: y :: t, acc, _, hc => by
    obtain ⟨h1, h2, h3, h4⟩ := hc x (by simp)
    have e : jn (x :: y :: t) ++ [10] = x ++ 44 :: (jn (y :: t) ++ [10]) := by simp [jn]
    rw [e]
    have hi := idx_at (p := x) (q := jn (y :: t) ++ [10]) h1
    have ht : (x ++ 44 :: (jn (y :: t) ++ [10])).take x.length = x := by simp
    have hd : (x ++ 44 :: (jn (y :: t) ++ [10])).drop (x.length + 1) = jn (y :: t) ++ [10] := by simp
    rw [par_comma (ln := x ++ 44 :: (jn (y :: t) ++ [10])) ?_ (by simp) (by rw [hi, ht]; exact h2), hi, ht, hd, par_jn s rest a b (y :: t) (acc ++ [x]) (by simp) (fun z hz => hc z (by simp only [List.mem_cons] at hz ⊢; exact .inr hz))]
    · simp
    · cases x with
      | nil => simp
      | cons c t' =>
        simp only [List.cons_append, List.head?_cons, ne_eq, Option.some.injEq]
        intro e; apply h2; rw [e]; simp
/-- The header's line is read as the header. -/
theorem qx_hdr (hdr : List (List UInt8)) (data : List UInt8) (h0 : hdr ≠ []) (hc : Clean hdr) (hne : jn hdr ≠ []) (hl : (jn hdr).length + 1 ≤ 65536) : qx (0, false) (jn hdr ++ [10] ++ data) 0 = .ok hdr 1 1 (0, false) data := by
  have h10 : 10 ∉ jn hdr := fun h => (jn_mem hc h).2.1 rfl
  have h34 : 34 ∉ jn hdr := fun h => (jn_mem hc h).1 rfl
  have h13 : 13 ∉ jn hdr := fun h => (jn_mem hc h).2.2 rfl
  have hpos := List.length_pos_iff.2 hne
  have hll : lineLen (jn hdr ++ [10] ++ data) = (jn hdr).length + 1 := by
    rw [List.append_assoc, lineLen_append_none _ h10]
    rfl
  have htk : (jn hdr ++ [10] ++ data).take ((jn hdr).length + 1) = jn hdr ++ [10] := List.take_left' (by simp)
  have hdp : (jn hdr ++ [10] ++ data).drop ((jn hdr).length + 1) = data := List.drop_left' (by simp)
  have hnm : norm (jn hdr ++ [10]) = jn hdr ++ [10] := by
    refine norm_lf _ (jn hdr).length (by simp) (by simp) ?_
    intro m hm hm' he
    rw [List.getElem_append_left (by omega)] at he
    exact h13 (he ▸ List.getElem_mem _)
  have hodd : odd (jn hdr) = false := by
    unfold odd
    rw [List.count_eq_zero_of_not_mem h34]
    rfl
  have hadv : adv (0, false) (jn hdr ++ [10]) = (0, false) := by
    rw [(adv_line (jn hdr) (0, false) h10).1, hodd]
    rfl
  rw [qx_rec (by simp) (by rw [hll]; simpa using hl) (by
    rw [hll, htk, hnm]
    rintro (h | h)
    · simp at h
    · have := congrArg List.length h
      simp at this
      exact hne this), hll, htk, hdp, hnm, hadv, par_jn _ _ _ _ hdr [] h0 hc]
  rfl
theorem no_mark (hdr : List (List UInt8)) (data : List UInt8) (m : List UInt8) (hm : m = [239, 187, 191]) (hne : jn hdr ≠ []) (h : (jn hdr).take 3 ≠ m) : (jn hdr ++ [10] ++ data).take 3 ≠ m := by
  subst hm
  match jn hdr, hne, h with
  | [], hne, _ => exact absurd rfl hne
  | [a], _, _ => simp
  | [a, b], _, _ => simp
  | a :: b :: c :: t, _, h => simpa using h
end Go.Proofs.Qxb6614395aFmt
