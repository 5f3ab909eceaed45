import Derived.Test.Qxb6609089aDoorL2
set_option linter.unusedSimpArgs false
set_option linter.unusedVariables false
namespace Go.Proofs.Qxb6609089aDoor.Uq
open Go Go.RowKit

theorem valid_bounds {v : Int} (h : Lib.validRune v = true) : 0 ≤ v ∧ v ≤ 1114111 := by
  simp only [Lib.validRune, decide_eq_true_eq] at h
  omega

theorem ucx_some {s : List UInt8} {r : Int} {m : Bool} {tl : List UInt8} (h : ucx s = some (r, m, tl)) : tl.length ≤ s.length ∧ m = false := by
  unfold ucx at h
  split at h
  · cases h
  · split at h
    · cases h
    · cases h; exact ⟨by simp, rfl⟩
theorem ucu_some {n : Nat} {s : List UInt8} {r : Int} {m : Bool} {tl : List UInt8} (h : ucu n s = some (r, m, tl)) : tl.length ≤ s.length ∧ (0 ≤ r ∧ r ≤ 1114111) := by
  unfold ucu at h
  split at h
  · cases h
  · split at h
    · cases h
    · split at h
      · rename_i hv
        cases h; exact ⟨by simp, valid_bounds hv⟩
      · cases h
theorem oct_some {d : UInt8} {s : List UInt8} {r : Int} {m : Bool} {tl : List UInt8} (h : oct d s = some (r, m, tl)) : tl.length ≤ s.length ∧ m = false := by
  unfold oct at h
  split at h
  · split at h
    · split at h
      · cases h
      · cases h; exact ⟨by simp; omega, rfl⟩
    · cases h
  · cases h
theorem esc_some {q d : UInt8} {s : List UInt8} {r : Int} {m : Bool} {tl : List UInt8} (h : esc q d s = some (r, m, tl)) : tl.length ≤ s.length ∧ (m = false ∨ (0 ≤ r ∧ r ≤ 1114111)) := by
  unfold esc at h
  split at h
  · cases h; exact ⟨Nat.le_refl _, .inl rfl⟩
  · split at h
    · have := ucx_some h; exact ⟨this.1, .inl this.2⟩
    · split at h
      · have := ucu_some h; exact ⟨this.1, .inr this.2⟩
      · split at h
        · have := ucu_some h; exact ⟨this.1, .inr this.2⟩
        · split at h
          · have := oct_some h; exact ⟨this.1, .inl this.2⟩
          · split at h
            · cases h; exact ⟨Nat.le_refl _, .inl rfl⟩
            · cases h
theorem uc_some {q c : UInt8} {s : List UInt8} {r : Int} {m : Bool} {tl : List UInt8} (h : uc q (c :: s) = some (r, m, tl)) : tl.length ≤ s.length ∧ (m = false ∨ (0 ≤ r ∧ r ≤ 1114111)) := by
  unfold uc at h
  simp only [] at h
  split at h
  · cases h
    refine ⟨?_, .inr ?_⟩
    · have := Lib.width_pos (str (c :: s)) 0
      simp; omega
    · exact valid_bounds (Lib.rune_valid _)
  · split at h
    · cases h; exact ⟨Nat.le_refl _, .inl rfl⟩
    · split at h
      · cases h
      · have := esc_some h
        exact ⟨by simp; omega, this.2⟩

theorem put_length (r : Int) (m : Bool) : (put r m).length ≤ 4 := by
  unfold put
  split
  · simp
  · exact Lib.encodeRuneZ_length_le r

/-- What is quoted is at most four times as long as the text. -/
theorem uloop_length (q : UInt8) : ∀ (f : Nat) (l : List UInt8) (acc : List Int) (p : List Int × List UInt8), uloop q f l acc = some p → p.1.length ≤ acc.length + 4 * l.length
  | 0, _, _, _, h => by simp [uloop] at h
  | _ + 1, [], _, _, h => by simp [uloop] at h
  | f + 1, c :: s, acc, p, h => by
    unfold uloop at h
    split at h
    · cases h; simp
    · split at h
      · cases h
      · rename_i r m tl hu
        have h1 := uc_some hu
        have h2 := put_length r m
        split at h
        · cases h
        · split at h
          · split at h
            · split at h
              · cases h; simp; omega
              · cases h
            · cases h
          · have := uloop_length q f tl _ p h
            simp at this ⊢
            omega

theorem unquote_size {l : List UInt8} {out : ByteArray} {rem : List UInt8} (h : unquote l = some (out, rem)) : out.size ≤ 4 * l.length := by
  unfold unquote at h
  split at h
  · cases h
  · rename_i q l
    split at h
    · cases h
    · split at h
      · cases h
      · split at h
        · cases h
          rw [str_size]
          have := List.length_filter_le (fun x : UInt8 => decide (x ≠ 13)) (l.take (Lib.indexByte l q).toNat)
          rw [List.length_take] at this
          simp at this ⊢
          omega
        · split at h
          · split at h
            · cases h
              rw [str_size, List.length_take]; simp; omega
            · rw [Option.map_eq_some_iff] at h
              obtain ⟨p, hp, he⟩ := h
              cases he
              have := uloop_length q _ _ _ p hp
              rw [strOfNums_size]
              simp at this ⊢
              omega
          · cases h

theorem unq_size (l : List UInt8) : (unq l).size ≤ 4 * l.length := by
  unfold unq
  split
  · simp
  · rename_i out rem h
    split
    · exact unquote_size h
    · simp

end Go.Proofs.Qxb6609089aDoor.Uq
