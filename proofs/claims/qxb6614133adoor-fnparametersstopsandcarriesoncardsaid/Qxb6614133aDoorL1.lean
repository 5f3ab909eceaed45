namespace Go.Proofs.Qxb6614133aDoor.Sf

def lower (c : UInt8) : Bool := decide (97 ≤ c.toNat ∧ c.toNat ≤ 122)
def digit (c : UInt8) : Bool := decide (48 ≤ c.toNat ∧ c.toNat ≤ 57)
def alpha (c : UInt8) : Bool := lower c || decide (65 ≤ c.toNat ∧ c.toNat ≤ 90)
def keyC (c : UInt8) : Bool := lower c || digit c || [95, 45, 46, 42].contains c
def tokC (c : UInt8) : Bool := (alpha c || digit c || [33, 35, 36, 37, 38, 39, 42, 43, 45, 46, 94, 95, 96, 124, 126].contains c) || c == 58 || c == 47
def b64C (c : UInt8) : Bool := alpha c || digit c || c == 43 || c == 47 || c == 61
def blank (c : UInt8) : Bool := c == 32

def consume (c : UInt8) : List UInt8 → Bool × List UInt8
  | [] => (false, [])
  | d :: t => if d = c then (true, t) else (false, d :: t)
def key : List UInt8 → Bool × List UInt8
  | [] => (false, [])
  | c :: t => if lower c || c == 42 then (true, (c :: t).dropWhile keyC) else (false, c :: t)
def number (l : List UInt8) : Bool × List UInt8 :=
  let l1 := (consume 45 l).2
  let i := (l1.takeWhile digit).length
  let k := consume 46 (l1.dropWhile digit)
  if k.1 then (decide (1 ≤ i) && decide (i ≤ 12) && decide (1 ≤ (k.2.takeWhile digit).length) && decide ((k.2.takeWhile digit).length ≤ 3), k.2.dropWhile digit)
  else (decide (1 ≤ i) && decide (i ≤ 15), k.2)
def qs : List UInt8 → Option (List UInt8)
  | [] => none
  | [c] => if c = 34 then some [] else none
  | c :: d :: u => if c = 92 then (if d = 34 ∨ d = 92 then qs u else none) else if c = 34 then some (d :: u) else if c.toNat < 32 ∨ 126 < c.toNat then none else qs (d :: u)
def quoted (l : List UInt8) : Bool × List UInt8 := match qs l.tail with
  | some r => (true, r)
  | none => (false, l)
def bool01 : List UInt8 → Bool × List UInt8
  | c :: d :: u => if d = 48 ∨ d = 49 then (true, u) else (false, c :: d :: u)
  | l => (false, l)
def bare : List UInt8 → Bool × List UInt8
  | [] => (false, [])
  | c :: t => if c == 45 || digit c then number (c :: t) else if c = 34 then quoted (c :: t) else if alpha c || c == 42 then (true, (c :: t).dropWhile tokC)
    else if c = 58 then consume 58 (t.dropWhile b64C) else if c = 63 then bool01 (c :: t) else (false, c :: t)
def params : Nat → List UInt8 → Bool × List UInt8
  | 0, l => (true, l)
  | n + 1, l =>
    if (consume 59 l).1 then
      let k := key ((consume 59 l).2.dropWhile blank)
      if k.1 then
        let e := consume 61 k.2
        if e.1 then
          let b := bare e.2
          if b.1 then params n b.2 else (false, b.2)
        else params n e.2
      else (false, k.2)
    else (true, (consume 59 l).2)

/-! ### What is left is a suffix -/
theorem consume_suffix (c : UInt8) (l : List UInt8) : (consume c l).2 <:+ l := by
  cases l with
  | nil => exact List.suffix_refl _
  | cons d t =>
    simp only [consume]
    split
    · exact List.suffix_cons d t
    · exact List.suffix_refl _
theorem key_suffix (l : List UInt8) : (key l).2 <:+ l := by
  cases l with
  | nil => exact List.suffix_refl _
  | cons d t =>
    simp only [key]
    split
    · exact List.dropWhile_suffix _
    · exact List.suffix_refl _
theorem number_suffix (l : List UInt8) : (number l).2 <:+ l := by
  unfold number
  have h1 := consume_suffix 45 l
  have h2 : ((consume 45 l).2.dropWhile digit) <:+ (consume 45 l).2 := List.dropWhile_suffix _
  have h3 := consume_suffix 46 ((consume 45 l).2.dropWhile digit)
  simp only []
  split
  · exact ((List.dropWhile_suffix _).trans h3).trans (h2.trans h1)
  · exact h3.trans (h2.trans h1)
theorem qs_suffix : ∀ (l r : List UInt8), qs l = some r → r <:+ l
  | [], r, h => by simp [qs] at h
  | [c], r, h => by
    simp only [qs] at h
    split at h
    · cases h; exact List.nil_suffix
    · cases h
  | c :: d :: u, r, h => by
    simp only [qs] at h
    split at h
    · split at h
      · exact (qs_suffix u r h).trans ⟨[c, d], rfl⟩
      · cases h
    · split at h
      · cases h; exact List.suffix_cons c _
      · split at h
        · cases h
        · exact (qs_suffix (d :: u) r h).trans (List.suffix_cons c _)
theorem quoted_suffix (l : List UInt8) : (quoted l).2 <:+ l := by
  unfold quoted
  split
  · rename_i r h
    exact (qs_suffix _ _ h).trans (List.tail_suffix l)
  · exact List.suffix_refl _
theorem bool01_suffix (l : List UInt8) : (bool01 l).2 <:+ l := by
  unfold bool01
  split
  · split
    · exact ⟨[_, _], rfl⟩
    · exact List.suffix_refl _
  · exact List.suffix_refl _
theorem bare_suffix (l : List UInt8) : (bare l).2 <:+ l := by
  cases l with
  | nil => exact List.suffix_refl _
  | cons c t =>
    simp only [bare]
    split
    · exact number_suffix _
    · split
      · exact quoted_suffix _
      · split
        · exact List.dropWhile_suffix _
        · split
          · exact ((consume_suffix 58 _).trans (List.dropWhile_suffix _)).trans (List.suffix_cons c t)
          · split
            · exact bool01_suffix _
            · exact List.suffix_refl _
theorem params_suffix : ∀ (n : Nat) (l : List UInt8), (params n l).2 <:+ l
  | 0, l => List.suffix_refl _
  | n + 1, l => by
    have h1 := consume_suffix 59 l
    have h2 : ((consume 59 l).2.dropWhile blank) <:+ (consume 59 l).2 := List.dropWhile_suffix _
    have h3 := key_suffix ((consume 59 l).2.dropWhile blank)
    have h4 := consume_suffix 61 (key ((consume 59 l).2.dropWhile blank)).2
    have h5 := bare_suffix (consume 61 (key ((consume 59 l).2.dropWhile blank)).2).2
    have a := h3.trans (h2.trans h1)
    unfold params
    simp only []
    split
    · split
      · split
        · split
          · exact (params_suffix n _).trans (h5.trans (h4.trans a))
          · exact h5.trans (h4.trans a)
        · exact (params_suffix n _).trans (h4.trans a)
      · exact a
    · exact h1

/-! ### A 'y' behind the input -/
/-- The reader stopped ahead of the end, or what follows opens with a semicolon. -/
def Good (r y : List UInt8) : Prop := r ≠ [] ∨ ∃ z, y = 59 :: z

theorem dw_append (p : UInt8 → Bool) (hp : p 59 = false) : ∀ (l y : List UInt8), Good (l.dropWhile p) y → (l ++ y).dropWhile p = l.dropWhile p ++ y ∧ (l ++ y).takeWhile p = l.takeWhile p
  | [], y, h => by
    rcases h with h | ⟨z, rfl⟩
    · exact absurd rfl h
    · simp [hp]
  | c :: l, y, h => by
    cases hc : p c with
    | true =>
      rw [List.dropWhile_cons_of_pos hc] at h
      have := dw_append p hp l y h
      simp [hc, this.1, this.2]
    | false => simp [hc]

theorem consume_true {c : UInt8} {l r : List UInt8} (h : consume c l = (true, r)) (y : List UInt8) : consume c (l ++ y) = (true, r ++ y) := by
  cases l with
  | nil => simp [consume] at h
  | cons d t =>
    simp only [consume] at h
    split at h
    · rename_i hd
      cases h
      simp [consume, hd]
    · cases h
theorem consume_false {c : UInt8} (hc : c ≠ 59) {l r : List UInt8} (h : consume c l = (false, r)) (y : List UInt8) (hg : Good r y) : r = l ∧ consume c (l ++ y) = (false, r ++ y) := by
  cases l with
  | nil =>
    simp [consume] at h
    subst h
    rcases hg with h | ⟨z, rfl⟩
    · exact absurd rfl h
    · simp [consume, Ne.symm hc]
  | cons d t =>
    simp only [consume] at h
    split at h
    · cases h
    · rename_i hd
      cases h
      simp [consume, hd]

theorem key_append {l r : List UInt8} (h : key l = (true, r)) (y : List UInt8) (hg : Good r y) : key (l ++ y) = (true, r ++ y) := by
  cases l with
  | nil => simp [key] at h
  | cons c t =>
    simp only [key] at h
    split at h
    · rename_i hc
      cases h
      have := (dw_append keyC (by decide) (c :: t) y hg).1
      rw [List.cons_append] at this ⊢
      rw [key, if_pos hc, this]
    · cases h

theorem consume_cases (c : UInt8) (l : List UInt8) : (∃ t, l = c :: t ∧ consume c l = (true, t)) ∨ consume c l = (false, l) := by
  cases l with
  | nil => exact .inr rfl
  | cons d t =>
    by_cases hd : d = c
    · exact .inl ⟨t, by rw [hd], by simp [consume, hd]⟩
    · exact .inr (by simp [consume, hd])

theorem Good.of_suffix {a b y : List UInt8} (h : a <:+ b) (hg : Good a y) : Good b y := by
  rcases hg with hg | hg
  · refine .inl fun hb => hg ?_
    rw [hb] at h
    exact List.suffix_nil.1 h
  · exact .inr hg

theorem number_append {l r : List UInt8} (h : number l = (true, r)) (y : List UInt8) (hg : Good r y) : number (l ++ y) = (true, r ++ y) := by
  obtain ⟨l1, h1⟩ : ∃ l1, (consume 45 l).2 = l1 := ⟨_, rfl⟩
  have hr : r <:+ (consume 46 (l1.dropWhile digit)).2 ∧ number l = (true, r) := by
    refine ⟨?_, h⟩
    unfold number at h
    simp only [h1] at h
    split at h
    · have := congrArg Prod.snd h
      simp only at this
      rw [← this]; exact List.dropWhile_suffix _
    · have := congrArg Prod.snd h
      simp only at this
      rw [← this]; exact List.suffix_refl _
  have g3 := hg.of_suffix hr.1
  have g2 := g3.of_suffix (consume_suffix 46 _)
  have g1 := g2.of_suffix (List.dropWhile_suffix digit)
  have e1 : (consume 45 (l ++ y)).2 = l1 ++ y := by
    rcases consume_cases 45 l with ⟨t, rfl, e⟩ | e
    · rw [e] at h1; subst h1; rw [consume_true e y]
    · rw [e] at h1; subst h1; rw [(consume_false (by decide) e y g1).2]
  obtain ⟨d1, d2⟩ := dw_append digit (by decide) l1 y g2
  unfold number at h ⊢
  simp only [h1, e1, d1, d2] at h ⊢
  rcases consume_cases 46 (l1.dropWhile digit) with ⟨t, e0, e⟩ | e
  · rw [e] at h
    rw [consume_true e y]
    simp only [if_true] at h ⊢
    have hd : t.dropWhile digit = r := congrArg Prod.snd h
    obtain ⟨f1, f2⟩ := dw_append digit (by decide) t y (by rw [hd]; exact hg)
    rw [f1, f2, hd]
    have hf := congrArg Prod.fst h
    simp only at hf
    rw [hf]
  · rw [e] at h g3
    rw [(consume_false (by decide) e y g3).2]
    simp only [Bool.false_eq_true, if_false] at h ⊢
    have hf := congrArg Prod.fst h
    have hs := congrArg Prod.snd h
    simp only at hf hs
    rw [hf, hs]

theorem qs_append : ∀ (l r y : List UInt8), qs l = some r → qs (l ++ y) = some (r ++ y)
  | [], r, y, h => by simp [qs] at h
  | [c], r, y, h => by
    simp only [qs] at h
    split at h
    · rename_i hc
      cases h
      subst hc
      cases y <;> simp [qs]
    · cases h
  | c :: d :: u, r, y, h => by
    simp only [qs] at h
    rw [List.cons_append, List.cons_append]
    simp only [qs]
    split at h
    · rename_i hc
      rw [if_pos hc]
      split at h
      · rename_i hd
        rw [if_pos hd]
        exact qs_append u r y h
      · cases h
    · rename_i hc
      rw [if_neg hc]
      split at h
      · rename_i hq
        cases h
        rw [if_pos hq]; rfl
      · rename_i hq
        rw [if_neg hq]
        split at h
        · cases h
        · rename_i hb
          rw [if_neg hb]
          have := qs_append (d :: u) r y h
          rwa [List.cons_append] at this

theorem bare_append {l r : List UInt8} (h : bare l = (true, r)) (y : List UInt8) (hg : Good r y) : bare (l ++ y) = (true, r ++ y) := by
  cases l with
  | nil => simp [bare] at h
  | cons c t =>
    rw [List.cons_append]
    simp only [bare] at h ⊢
    by_cases h1 : (c == 45 || digit c) = true
    · rw [if_pos h1] at h ⊢
      exact number_append h y hg
    · rw [if_neg h1] at h ⊢
      by_cases h2 : c = 34
      · rw [if_pos h2] at h ⊢
        unfold quoted at h ⊢
        cases hq : qs (c :: t).tail with
        | none => rw [hq] at h; simp at h
        | some r' =>
          rw [hq] at h
          cases h
          have := qs_append _ _ y hq
          rw [List.tail_cons] at this ⊢
          rw [this]
      · rw [if_neg h2] at h ⊢
        by_cases h3 : (alpha c || c == 42) = true
        · rw [if_pos h3] at h ⊢
          cases h
          have := (dw_append tokC (by decide) (c :: t) y hg).1
          rw [List.cons_append] at this
          rw [this]
        · rw [if_neg h3] at h ⊢
          by_cases h4 : c = 58
          · rw [if_pos h4] at h ⊢
            have g2 := hg.of_suffix (by have := consume_suffix 58 (t.dropWhile b64C); rw [h] at this; exact this)
            rw [(dw_append b64C (by decide) t y g2).1]
            exact consume_true h y
          · rw [if_neg h4] at h ⊢
            by_cases h5 : c = 63
            · rw [if_pos h5] at h ⊢
              cases t with
              | nil => simp [bool01] at h
              | cons d u =>
                rw [List.cons_append]
                simp only [bool01] at h ⊢
                split at h
                · rename_i hd
                  cases h
                  rw [if_pos hd]
                · cases h
            · rw [if_neg h5] at h
              cases h

/-! ### The parameters -/
theorem key_length {l r : List UInt8} (h : key l = (true, r)) : r.length < l.length := by
  cases l with
  | nil => simp [key] at h
  | cons c t =>
    simp only [key] at h
    split at h
    · rename_i hc
      cases h
      have hk : keyC c = true := by
        unfold keyC
        rcases Bool.or_eq_true_iff.1 hc with hc | hc
        · simp [hc]
        · have : c = 42 := by simpa using hc
          subst this; decide
      rw [List.dropWhile_cons_of_pos hk]
      have := (List.dropWhile_suffix (l := t) keyC).length_le
      simp; omega
    · cases h

theorem params_more : ∀ (n m : Nat) (l : List UInt8), l.length < n → l.length < m → params n l = params m l
  | 0, _, _, h, _ => absurd h (Nat.not_lt_zero _)
  | _ + 1, 0, _, _, h => absurd h (Nat.not_lt_zero _)
  | n + 1, m + 1, l, hn, hm => by
    rcases consume_cases 59 l with ⟨t, rfl, e⟩ | e
    · have ht : t.length < n ∧ t.length < m := by simp at hn hm; omega
      have h2 := (List.dropWhile_suffix (l := t) blank).length_le
      have h3 := (key_suffix (t.dropWhile blank)).length_le
      have h4 := (consume_suffix 61 (key (t.dropWhile blank)).2).length_le
      have h5 := (bare_suffix (consume 61 (key (t.dropWhile blank)).2).2).length_le
      unfold params
      simp only [e]
      simp only [params_more n m _ (show (consume 61 (key (t.dropWhile blank)).2).2.length < n by omega) (by omega), params_more n m _ (show (bare (consume 61 (key (t.dropWhile blank)).2).2).2.length < n by omega) (by omega)]
    · unfold params
      simp only [e]
      simp

theorem params_stop {n : Nat} {l r : List UInt8} (hn : l.length < n) (h : params n l = (true, r)) : ∀ z, r ≠ 59 :: z := by
  induction n generalizing l with
  | zero => omega
  | succ n ih =>
    rcases consume_cases 59 l with ⟨t, rfl, e⟩ | e
    · have ht : t.length < n := by simp at hn; omega
      have h2 := (List.dropWhile_suffix (l := t) blank).length_le
      have h3 := (key_suffix (t.dropWhile blank)).length_le
      have h4 := (consume_suffix 61 (key (t.dropWhile blank)).2).length_le
      have h5 := (bare_suffix (consume 61 (key (t.dropWhile blank)).2).2).length_le
      unfold params at h
      simp only [e, if_true] at h
      split at h
      · split at h
        · split at h
          · exact ih (by omega) h
          · cases h
        · exact ih (by omega) h
      · cases h
    · unfold params at h
      simp only [e] at h
      simp at h
      subst h
      intro z hz
      rw [hz] at e
      simp [consume] at e

/-- 'x' is read; what is left of it is 'r': so 'x ++ y' leaves 'r ++ y', or, where nothing is left of x, is read on as y alone. -/
theorem params_append : ∀ (n m : Nat) (l r y : List UInt8), l.length < n → (l ++ y).length < m → params n l = (true, r) →
    (r ≠ [] → params m (l ++ y) = (true, r ++ y)) ∧ (r = [] → (∃ z, y = 59 :: z) → params m (l ++ y) = params m y)
  | 0, _, _, _, _, h, _, _ => absurd h (Nat.not_lt_zero _)
  | n + 1, 0, _, _, _, _, h, _ => absurd h (Nat.not_lt_zero _)
  | n + 1, m + 1, l, r, y, hn, hm, h => by
    rcases consume_cases 59 l with ⟨t, rfl, e⟩ | e
    · have ht : t.length < n ∧ t.length + y.length < m := by simp at hn hm; omega
      have h2 := (List.dropWhile_suffix (l := t) blank).length_le
      obtain ⟨l2, hl2⟩ : ∃ l2, t.dropWhile blank = l2 := ⟨_, rfl⟩
      rw [hl2] at h2
      have e' := consume_true e y
      unfold params at h
      simp only [e, if_true, hl2] at h
      obtain ⟨k1, l3, hk⟩ : ∃ k1 l3, key l2 = (k1, l3) := ⟨_, _, rfl⟩
      cases k1 with
      | false => simp only [hk] at h; simp at h
      | true =>
        simp only [hk, if_true] at h
        have h3 := key_length hk
        -- what the rest does, whatever is read next
        have main : ∀ y', (l3 ≠ [] ∨ ∃ z, y' = 59 :: z) → key ((t ++ y').dropWhile blank) = (true, l3 ++ y') := by
          intro y' hg
          have g2 : Good l2 y' := by
            rcases hg with hg | hg
            · exact .inl (fun e2 => by rw [e2] at hk; simp [key] at hk)
            · exact .inr hg
          rw [(dw_append blank (by decide) t y' (by rw [hl2]; exact g2)).1, hl2]
          exact key_append hk y' hg
        obtain ⟨q1, l4, hq⟩ : ∃ q1 l4, consume 61 l3 = (q1, l4) := ⟨_, _, rfl⟩
        have h4 : l4.length ≤ l3.length := by have := (consume_suffix 61 l3).length_le; rw [hq] at this; exact this
        cases q1 with
        | true =>
          have hl3 : l3 ≠ [] := fun e3 => by rw [e3] at hq; simp [consume] at hq
          simp only [hq, if_true] at h
          obtain ⟨b1, l5, hb⟩ : ∃ b1 l5, bare l4 = (b1, l5) := ⟨_, _, rfl⟩
          have h5 : l5.length ≤ l4.length := by have := (bare_suffix l4).length_le; rw [hb] at this; exact this
          cases b1 with
          | false => simp only [hb] at h; simp at h
          | true =>
            simp only [hb, if_true] at h
            have step : ∀ y', (l5 ≠ [] ∨ ∃ z, y' = 59 :: z) → ∀ m', params (m' + 1) (59 :: t ++ y') = params m' (l5 ++ y') := by
              intro y' hg m'
              rw [params]
              simp only [consume_true e y', if_true, main y' (.inl hl3), consume_true hq y', bare_append hb y' hg]
            have IH := params_append n m l5 r y (by omega) (by simp; omega) h
            refine ⟨fun hr => ?_, fun hr hy => ?_⟩
            · have hl5 : l5 ≠ [] := fun e5 => by
                rw [e5] at h
                have := (params_suffix n []).length_le
                rw [h] at this
                exact hr (List.eq_nil_of_length_eq_zero (by simpa using this))
              rw [step y (.inl hl5)]
              exact IH.1 hr
            · rw [step y (.inr hy), IH.2 hr hy]
              exact params_more _ _ _ (by omega) (by omega)
        | false =>
          have e43 : l4 = l3 := by
            rcases consume_cases 61 l3 with ⟨_, _, e4⟩ | e4
            · rw [e4] at hq; cases hq
            · rw [e4] at hq; exact (congrArg Prod.snd hq).symm
          rw [e43] at hq
          simp only [hq] at h
          simp only [Bool.false_eq_true, if_false] at h
          have step : ∀ y', (l3 ≠ [] ∨ ∃ z, y' = 59 :: z) → ∀ m', params (m' + 1) (59 :: t ++ y') = params m' (l3 ++ y') := by
            intro y' hg m'
            rw [params]
            simp only [consume_true e y', if_true, main y' hg, (consume_false (by decide) hq y' hg).2]
            simp
          have IH := params_append n m l3 r y (by omega) (by simp; omega) h
          refine ⟨fun hr => ?_, fun hr hy => ?_⟩
          · have hl3 : l3 ≠ [] := fun e5 => by
              rw [e5] at h
              have := (params_suffix n []).length_le
              rw [h] at this
              exact hr (List.eq_nil_of_length_eq_zero (by simpa using this))
            rw [step y (.inl hl3)]
            exact IH.1 hr
          · rw [step y (.inr hy), IH.2 hr hy]
            exact params_more _ _ _ (by omega) (by omega)
    · have hl : r = l := by
        unfold params at h
        simp only [e] at h
        simp at h
        exact h.symm
      subst hl
      refine ⟨fun hr => ?_, fun hr hy => by rw [hr]; rfl⟩
      cases r with
      | nil => exact absurd rfl hr
      | cons d u =>
        have hd : ¬ d = 59 := fun hd => by rw [hd] at e; simp [consume] at e
        simp [params, consume, hd]

def P (l : List UInt8) : Bool × List UInt8 := params (l.length + 1) l

end Go.Proofs.Qxb6614133aDoor.Sf
