namespace Go.Proofs.Qxb6609089aDoor.Rd

/-- A line without one CR at its end. -/
def trimCR (l : List UInt8) : List UInt8 := if l.getLast? = some 13 then l.dropLast else l

/-- What Ready says of the bytes: 'acc' is what has been passed of the line at hand. -/
def rdy (sk : List UInt8 → Bool) : List UInt8 → List UInt8 → Bool
  | _, [] => false
  | acc, c :: t => if c = 10 then (if sk (trimCR acc) then rdy sk [] t else true) else rdy sk (acc ++ [c]) t

theorem rdy_none (sk : List UInt8 → Bool) : ∀ (l acc : List UInt8), 10 ∉ l → rdy sk acc l = false
  | [], _, _ => rfl
  | c :: t, acc, h => by
    have hc : ¬ c = 10 := fun e => h (by rw [e]; exact List.mem_cons_self)
    rw [rdy, if_neg hc]
    exact rdy_none sk t _ fun m => h (List.mem_cons_of_mem _ m)

theorem rdy_cut (sk : List UInt8 → Bool) : ∀ (pre acc t : List UInt8), 10 ∉ pre → rdy sk acc (pre ++ 10 :: t) = if sk (trimCR (acc ++ pre)) then rdy sk [] t else true
  | [], acc, t, _ => by simp [rdy]
  | c :: pre, acc, t, h => by
    have hc : ¬ c = 10 := fun e => h (by rw [e]; exact List.mem_cons_self)
    rw [List.cons_append, rdy, if_neg hc, rdy_cut sk pre _ t fun m => h (List.mem_cons_of_mem _ m)]
    simp

theorem rdy_split (sk : List UInt8 → Bool) : ∀ (a acc b : List UInt8), a.getLast? = some 10 → rdy sk acc (a ++ b) = (rdy sk acc a || rdy sk [] b)
  | [], _, _, h => by simp at h
  | [c], acc, b, h => by
    have hc : c = 10 := by simpa using h
    subst hc
    cases hs : sk (trimCR acc) <;> simp [rdy, hs]
  | c :: d :: t, acc, b, h => by
    have h' : (d :: t).getLast? = some 10 := by simpa using h
    rw [List.cons_append, rdy, rdy]
    by_cases hc : c = 10
    · rw [if_pos hc, if_pos hc, rdy_split sk (d :: t) [] b h']
      split <;> simp
    · rw [if_neg hc, if_neg hc, rdy_split sk (d :: t) _ b h']

theorem trimCR_prefix (l : List UInt8) : ∃ m, m ≤ l.length ∧ trimCR l = l.take m := by
  unfold trimCR
  split
  · exact ⟨l.length - 1, by omega, List.dropLast_eq_take⟩
  · exact ⟨l.length, Nat.le_refl _, by simp⟩

/-- The law: Ready over a whole is Ready over the part before a line boundary or Ready over the part behind it. -/
theorem ready_law (sk : List UInt8 → Bool) (a b : List UInt8) (h : a = [] ∨ a.getLast? = some 10) : rdy sk [] (a ++ b) = (rdy sk [] a || rdy sk [] b) := by
  rcases h with rfl | h
  · simp [rdy]
  · exact rdy_split sk a [] b h

/-- Where a line feed stands, or that there is none. -/
theorem lf_cases (l : List UInt8) : 10 ∉ l ∨ ∃ pre t, l = pre ++ 10 :: t ∧ 10 ∉ pre := by
  induction l with
  | nil => exact .inl (by simp)
  | cons c l ih =>
    by_cases hc : c = 10
    · exact .inr ⟨[], l, by simp [hc], by simp⟩
    · rcases ih with h | ⟨pre, t, rfl, hp⟩
      · exact .inl (by simp [h]; exact fun e => hc e.symm)
      · exact .inr ⟨c :: pre, t, rfl, by simp [hp]; exact fun e => hc e.symm⟩

end Go.Proofs.Qxb6609089aDoor.Rd
