import Derived.Test.Qxb6614395aFmtL5
set_option linter.unusedSimpArgs false
set_option linter.unusedVariables false
namespace Go.Proofs.Qxb6614395aFmt
open Go

def mark3' : List UInt8 := [239, 187, 191]
/-- What the model's line holds, told by places. -/
theorem line_facts (T : List UInt8) (st k e nx : Nat) (hk : k = 0 ∨ (k = 3 ∧ st = 0 ∧ T.take 3 = [239, 187, 191])) (hst : st < T.length) (hse : st ≤ e) (he : e ≤ T.length) (hno : 10 ∉ (T.take e).drop st)
    (hend : (e = T.length ∧ nx = e) ∨ ∃ h : e < T.length, T[e] = 10 ∧ nx = e + 1) :
    st + k ≤ e ∧ k + lineLen (T.drop (st + k)) = nx - st ∧ (T.drop (st + k)).drop (lineLen (T.drop (st + k))) = T.drop nx ∧ strip ((T.drop (st + k)).take (lineLen (T.drop (st + k)))) = (T.take e).drop (st + k) := by
  have hle : st + k ≤ e := by
    rcases hk with rfl | ⟨rfl, rfl, hm⟩
    · omega
    · have hl : 3 ≤ T.length := by
        have := congrArg List.length hm
        simp at this
        omega
      rcases hend with ⟨h, -⟩ | ⟨h, h10, -⟩
      · omega
      · have hg : ∀ i (hi : i < 3), T[i]'(by omega) = ([239, 187, 191] : List UInt8)[i] := by
          intro i hi
          have h1 : (T.take 3)[i]? = ([239, 187, 191] : List UInt8)[i]? := by rw [hm]
          rw [List.getElem?_take_of_lt hi, List.getElem?_eq_getElem (by omega), List.getElem?_eq_getElem (by simpa using hi)] at h1
          exact Option.some.inj h1
        rcases Nat.lt_or_ge e 3 with h3 | h3
        · exfalso
          have := hg e h3
          rw [h10] at this
          have h9 : (10 : UInt8) ∈ ([239, 187, 191] : List UInt8) := this ▸ List.getElem_mem _
          simp at h9
        · omega
  refine ⟨hle, ?_⟩
  have hno' : 10 ∉ (T.take e).drop (st + k) := fun h => hno (by
    rw [← List.drop_drop] at h
    exact List.mem_of_mem_drop h)
  have htd : (T.drop (st + k)).take (e - (st + k)) = (T.take e).drop (st + k) := by rw [List.drop_take]
  rcases hend with ⟨h, rfl⟩ | ⟨h, h10, rfl⟩
  · subst h
    rw [List.take_length] at hno' ⊢
    have hll := lineLen_none hno'
    rw [hll]
    refine ⟨by rw [List.length_drop]; omega, ?_, ?_⟩
    · simp; omega
    · rw [List.take_length]
      unfold strip
      rw [if_neg]
      intro h
      exact hno' (List.mem_of_getLast? h)
  · have hj : e - (st + k) < (T.drop (st + k)).length := by rw [List.length_drop]; omega
    have hg : (T.drop (st + k))[e - (st + k)] = 10 := by
      rw [List.getElem_drop]
      simp only [show st + k + (e - (st + k)) = e by omega]
      exact h10
    have hll := lineLen_some hj hg (by rw [htd]; exact hno')
    rw [hll]
    refine ⟨by omega, ?_, ?_⟩
    · rw [List.drop_drop]
      congr 1
      omega
    · rw [List.take_add_one, List.getElem?_eq_getElem hj, hg, htd]
      unfold strip
      simp
/-- The line's body, told by places. -/
theorem body_facts (T : List UInt8) (a e : Nat) (ha : a ≤ e) (he : e ≤ T.length) (l : List UInt8) (hs : strip l = (T.take e).drop a) (cr : Bool) (hcr : cr = true ↔ ∃ h : a < e, T[e - 1]'(by omega) = 13) : bodyOf l = (T.take (if cr = true then e - 1 else e)).drop a ∧ (cr = true → a < e) := by
  unfold bodyOf
  rw [hs]
  have hl : ((T.take e).drop a).length = e - a := by rw [List.length_drop, List.length_take]; omega
  have hgl : ((T.take e).drop a).getLast? = some 13 ↔ cr = true := by
    rw [hcr, List.getLast?_eq_getElem?, hl]
    constructor
    · intro h
      obtain ⟨h1, h2⟩ := List.getElem?_eq_some_iff.1 h
      rw [hl] at h1
      refine ⟨by omega, ?_⟩
      rw [List.getElem_drop, List.getElem_take] at h2
      simp only [show a + (e - a - 1) = e - 1 by omega] at h2
      exact h2
    · rintro ⟨h1, h2⟩
      rw [List.getElem?_eq_getElem (by rw [hl]; omega), List.getElem_drop, List.getElem_take]
      simp only [show a + (e - a - 1) = e - 1 by omega]
      rw [h2]
  cases cr with
  | true =>
    rw [if_pos (hgl.2 rfl)]
    have h1 : a < e := (hcr.1 rfl).1
    refine ⟨?_, fun _ => h1⟩
    rw [if_pos rfl, List.dropLast_eq_take, hl, List.take_drop, List.take_take]
    congr 2
    omega
  | false =>
    rw [if_neg (fun h => by have := hgl.1 h; simp at this), if_neg (by simp)]
    exact ⟨rfl, fun h => by simp at h⟩
end Go.Proofs.Qxb6614395aFmt
