import Derived.Test.Qxb6609089aDoorL5
import Derived.Lib.TrimAscii
set_option linter.unusedSimpArgs false
set_option linter.unusedVariables false
namespace Go.Proofs.Qxb6609089aDoor.Uq
open Go Go.RowKit

theorem strOf_byt (xs : List Int) : strOfNums xs = str (byt xs) := rfl
theorem strOf_num (l : List UInt8) : strOfNums (num l) = str l := by rw [strOf_byt, byt_num]

/-- What Quote writes between the quotes. -/
def body (T : Lib.PrintTabs) (n : Nat) (l : List UInt8) : List UInt8 := byt (Lib.quoteFrom T n (str l))
theorem body_nil (T : Lib.PrintTabs) (n : Nat) : body T n [] = [] := by
  unfold body
  rw [Lib.quoteFrom_end T n (str []) (by simp [str_size])]
  rfl
theorem body_step (T : Lib.PrintTabs) (n : Nat) (l : List UInt8) (hne : l ≠ []) : body T (n + 1) l = byt (Lib.quoteStep T (str l)) ++ body T n (l.drop (Lib.decodeL l).2) := by
  have h0 : 0 < (str l).size := by rw [str_size]; exact List.length_pos_iff.2 hne
  unfold body
  rw [Lib.quoteFrom, if_pos h0, byt_append, str_extract, str_size, List.take_length]
  rfl

theorem drop_le {l : List UInt8} {n : Nat} (hne : l ≠ []) (h : l.length ≤ n + 1) : (l.drop (Lib.decodeL l).2).length ≤ n := by
  have := Lib.decodeL_width l
  rw [List.length_drop]; omega

theorem loop_law (T : Lib.PrintTabs) : ∀ (n : Nat) (l : List UInt8), l.length ≤ n → ∀ (f : Nat) (acc : List Int) (rest : List UInt8), (body T n l).length < f → uloop 34 f (body T n l ++ 34 :: rest) acc = some (acc ++ num l, rest) := by
  intro n
  induction n with
  | zero =>
    intro l hl f acc rest hf
    obtain rfl : l = [] := List.length_eq_zero_iff.1 (by omega)
    obtain ⟨f, rfl⟩ : ∃ g, f = g + 1 := ⟨f - 1, by omega⟩
    rw [body_nil]
    simp [uloop, num]
  | succ n ih =>
    intro l hl f acc rest hf
    obtain ⟨f, rfl⟩ : ∃ g, f = g + 1 := ⟨f - 1, by omega⟩
    by_cases hne : l = []
    · subst hne
      rw [body_nil]
      simp [uloop, num]
    · have hs := step_of T l hne
      rw [body_step T n l hne] at hf ⊢
      obtain ⟨c, t, e, hc34, hc10, r, m, hu, hp⟩ := hs.reads (body T n (l.drop (Lib.decodeL l).2) ++ 34 :: rest)
      rw [List.append_assoc]
      have hst : 1 ≤ (byt (Lib.quoteStep T (str l))).length := by
        obtain ⟨c', t', e', _⟩ := hs.reads []
        rw [List.append_nil] at e'
        rw [e']; simp
      rw [e] at hu ⊢
      rw [uloop, if_neg hc34, hu]
      simp only []
      rw [if_neg hc10, if_neg (by decide), hp, ih (l.drop (Lib.decodeL l).2) (drop_le hne hl) f _ rest (by rw [List.length_append] at hf; omega), List.append_assoc, ← num_append, List.take_append_drop]

theorem fast_law (T : Lib.PrintTabs) : ∀ (n : Nat) (l : List UInt8), l.length ≤ n → ∀ (pre suf : List UInt8), body T n l ++ [34] = pre ++ 34 :: suf → 34 ∉ pre → 92 ∉ pre → suf = [] ∧ pre = l := by
  have base : ∀ (pre suf : List UInt8), [34] = pre ++ 34 :: suf → suf = [] ∧ pre = [] := fun pre suf h => by
    cases pre with
    | nil => simpa using h.symm
    | cons a b => simp at h
  intro n
  induction n with
  | zero =>
    intro l hl pre suf h _ _
    obtain rfl : l = [] := List.length_eq_zero_iff.1 (by omega)
    rw [body_nil] at h
    exact base pre suf h
  | succ n ih =>
    intro l hl pre suf h h34 h92
    by_cases hne : l = []
    · subst hne
      rw [body_nil] at h
      exact base pre suf h
    · have hs := step_of T l hne
      rw [body_step T n l hne, List.append_assoc] at h
      rcases hs.shape with ⟨est, n34, n92⟩ | hh
      · have key : ∃ as, pre = l.take (Lib.decodeL l).2 ++ as ∧ body T n (l.drop (Lib.decodeL l).2) ++ [34] = as ++ 34 :: suf := by
          rw [est] at h n34
          rcases List.append_eq_append_iff.1 h with ⟨as, e1, e2⟩ | ⟨bs, e1, e2⟩
          · exact ⟨as, e1, e2⟩
          · cases bs with
            | nil => exact ⟨[], by rw [e1]; simp, by simpa using e2.symm⟩
            | cons b bs =>
              have hb : b = 34 := by
                have := e2
                simp at this
                exact this.1.symm
              exact absurd (by rw [e1, hb]; simp) n34
        obtain ⟨as, rfl, e2⟩ := key
        have h1 := ih (l.drop (Lib.decodeL l).2) (drop_le hne hl) as suf e2 (fun hm => h34 (List.mem_append_right _ hm)) (fun hm => h92 (List.mem_append_right _ hm))
        exact ⟨h1.1, by rw [h1.2, List.take_append_drop]⟩
      · exfalso
        obtain ⟨t, et⟩ : ∃ t, byt (Lib.quoteStep T (str l)) = 92 :: t := by
          cases hq : byt (Lib.quoteStep T (str l)) with
          | nil => rw [hq] at hh; simp at hh
          | cons a b => rw [hq] at hh; simp at hh; exact ⟨b, by rw [hh]⟩
        rw [et] at h
        cases pre with
        | nil => simp at h
        | cons a b =>
          have : a = 92 := by simp at h; exact h.1.symm
          exact h92 (by rw [this]; simp)

theorem quoteZ_byt (T : Lib.PrintTabs) (l : List UInt8) : byt (Lib.quoteZ T (str l)) = 34 :: (body T l.length l ++ [34]) := by
  unfold Lib.quoteZ body
  rw [str_size]
  simp [byt]

theorem index_at' {l : List UInt8} {q : UInt8} (h : ¬ Lib.indexByte l q = -1) : ∃ E : Nat, Lib.indexByte l q = E ∧ E < l.length := by
  have h1 := Lib.indexByte_ge l q
  obtain ⟨E, hE⟩ := Int.eq_ofNat_of_zero_le (show 0 ≤ Lib.indexByte l q by omega)
  refine ⟨E, hE, ?_⟩
  have := (Lib.indexByte_some hE).1
  exact (List.getElem?_eq_some_iff.1 this).1
theorem no_byte' {l : List UInt8} {q : UInt8} (h : Lib.indexByte l q = -1) : q ∉ l := fun hm => by
  obtain ⟨k, hk, e⟩ := List.getElem_of_mem hm
  exact Lib.indexByte_none h k (by rw [List.getElem?_eq_getElem hk, e])

/-- **The round trip**: Unquote of Quote is the text. -/
theorem unq_quote (T : Lib.PrintTabs) (l : List UInt8) : unq (byt (Lib.quoteZ T (str l))) = str l := by
  rw [quoteZ_byt]
  obtain ⟨B, hB⟩ : ∃ B, body T l.length l = B := ⟨_, rfl⟩
  have hloop := loop_law T l.length l (Nat.le_refl _)
  have hfast := fast_law T l.length l (Nat.le_refl _)
  rw [hB] at hloop hfast ⊢
  have hi : ¬ Lib.indexByte (B ++ [34]) 34 = -1 := fun h => no_byte' h (by simp)
  obtain ⟨E, hE, hEl⟩ := index_at' hi
  have hun : unquote (34 :: (B ++ [34])) = some (str l, []) := by
    unfold unquote
    simp only []
    rw [if_neg (by simp), if_neg hi, if_neg (by decide), if_pos (.inl trivial), hE, Int.toNat_natCast]
    by_cases hf : fast 34 E (B ++ [34]) = true
    · rw [if_pos hf]
      unfold fast at hf
      simp only [Bool.and_eq_true, Bool.not_eq_true', bne_eq_false_iff_eq] at hf
      have h92 := no_byte' hf.1.1
      have hsplit : B ++ [34] = (B ++ [34]).take E ++ 34 :: (B ++ [34]).drop (E + 1) := by
        have hg := (List.getElem?_eq_some_iff.1 (Lib.indexByte_some hE).1)
        obtain ⟨hlt, he⟩ := hg
        conv => lhs; rw [← List.take_append_drop E (B ++ [34])]
        rw [List.drop_eq_getElem_cons hlt, he]
      have n34 : 34 ∉ (B ++ [34]).take E := fun hm => by
        obtain ⟨k, hk, e⟩ := List.getElem_of_mem hm
        rw [List.length_take] at hk
        refine (Lib.indexByte_some hE).2 k (by omega) ?_
        rw [List.getElem_take] at e
        rw [List.getElem?_eq_getElem (by omega), e]
      have n92 : 92 ∉ (B ++ [34]).take E := fun hm => h92 (by
        rw [show E + 2 = (E + 1) + 1 from rfl, List.take_succ_cons]
        refine List.mem_cons_of_mem _ ?_
        have : (B ++ [34]).take E = ((B ++ [34]).take (E + 1)).take E := by rw [List.take_take]; congr 1; omega
        rw [this] at hm
        exact List.mem_of_mem_take hm)
      have := hfast _ _ hsplit n34 n92
      rw [this.1, this.2]
    · rw [if_neg hf, hloop (B ++ [34] : List UInt8).length.succ [] [] (by simp; omega)]
      simp [strOf_num]
  unfold unq
  rw [hun]
  rfl

theorem body_plain (T : Lib.PrintTabs) : ∀ (n : Nat) (l : List UInt8), l.length ≤ n → (∀ c ∈ l, 32 ≤ c.toNat ∧ c.toNat ≤ 126 ∧ c ≠ 34 ∧ c ≠ 92) → body T n l = l := by
  intro n
  induction n with
  | zero =>
    intro l hl _
    obtain rfl : l = [] := List.length_eq_zero_iff.1 (by omega)
    exact body_nil T 0
  | succ n ih =>
    intro l hl hp
    cases l with
    | nil => exact body_nil T _
    | cons c t =>
      have hc := hp c List.mem_cons_self
      have hd := Lib.decodeL_ascii c t (by omega)
      rw [body_step T n _ (by simp), hd]
      have e : Lib.quoteStep T (str (c :: t)) = [(c.toNat : Int)] := by
        have hd' : Utf8.decode (str (c :: t)) 0 = (c.toNat, 1) := hd
        rw [Lib.quoteStep_good T _ (by rw [hd']; simp; omega), hd']
        simp only []
        unfold Lib.escRune
        have h34 : c.toNat ≠ 34 := fun h => hc.2.2.1 (UInt8.toNat_inj.1 h)
        have h92 : c.toNat ≠ 92 := fun h => hc.2.2.2 (UInt8.toNat_inj.1 h)
        rw [if_neg (by omega), if_pos, Lib.encodeRuneZ_one (by omega) (by omega)]
        unfold Lib.isPrintR Lib.isPrintLatin
        rw [if_pos (by omega)]
        simp only [Bool.or_eq_true, Bool.and_eq_true, decide_eq_true_eq]
        omega
      rw [e]
      simp only [List.drop_succ_cons, List.drop_zero]
      rw [ih t (by simpa using hl) fun c hc => hp c (List.mem_cons_of_mem _ hc)]
      simp [byt]

end Go.Proofs.Qxb6609089aDoor.Uq
