import Derived.Test.Qxb6609089aDoorL4
set_option linter.unusedSimpArgs false
set_option linter.unusedVariables false
namespace Go.Proofs.Qxb6609089aDoor.Uq
open Go Go.RowKit

/-- One round of Quote, as Unquote reads it. -/
structure Step (l st : List UInt8) (K : Nat) : Prop where
  shape : (st = l.take K ∧ 34 ∉ st ∧ 92 ∉ st) ∨ st.head? = some 92
  reads : ∀ rest, ∃ c t, st ++ rest = c :: t ∧ c ≠ 34 ∧ c ≠ 10 ∧ ∃ r m, uc 34 (st ++ rest) = some (r, m, rest) ∧ put r m = num (l.take K)

theorem put_byte {r : Int} (h0 : 0 ≤ r) (h1 : r < 256) : put r false = [r] := by
  unfold put
  rw [if_pos (.inr rfl)]
  congr 1
  omega
theorem put_rune {r : Int} (h : 128 ≤ r) : put r true = Lib.encodeRuneZ r := by
  unfold put
  rw [if_neg (by rintro (h' | h'); omega; cases h')]

/-- An escape: a backslash and what follows. -/
theorem step_esc {l : List UInt8} {K : Nat} {d : UInt8} {t : List UInt8} {r : Int} {m : Bool} (h : ∀ rest, esc 34 d (t ++ rest) = some (r, m, rest)) (hp : put r m = num (l.take K)) : Step l (92 :: d :: t) K :=
  ⟨.inr rfl, fun rest => ⟨92, d :: t ++ rest, rfl, by decide, by decide, r, m, by
    show uc 34 (92 :: d :: (t ++ rest)) = _
    unfold uc
    simp only []
    rw [if_neg (by decide), if_neg (by decide)]
    exact h rest, hp⟩⟩

theorem esc_named (d : UInt8) (v : Int) (s : List UInt8) (h : simpleEsc.lookup d = some v) : esc 34 d s = some (v, false, s) := by
  unfold esc; rw [h]
theorem esc_x (s : List UInt8) : esc 34 120 s = ucx s := by
  unfold esc
  rw [show simpleEsc.lookup 120 = none from rfl]
  simp only [if_pos]
theorem esc_u (s : List UInt8) : esc 34 117 s = ucu 4 s := by
  unfold esc
  rw [show simpleEsc.lookup 117 = none from rfl]
  simp only []
  rw [if_neg (by decide), if_pos trivial]
theorem esc_U (s : List UInt8) : esc 34 85 s = ucu 8 s := by
  unfold esc
  rw [show simpleEsc.lookup 85 = none from rfl]
  simp only []
  rw [if_neg (by decide), if_neg (by decide), if_pos trivial]
theorem esc_q (s : List UInt8) : esc 34 34 s = some (34, false, s) := by
  unfold esc
  rw [show simpleEsc.lookup 34 = none from rfl]
  simp only []
  rw [if_neg (by decide), if_neg (by decide), if_neg (by decide), if_neg (by decide), if_pos trivial]
  rfl

theorem latin_ascii {r : Int} (h0 : 0 ≤ r) (h : r ≤ 127) (hp : Lib.isPrintLatin r = true) : 32 ≤ r ∧ r ≤ 126 := by
  unfold Lib.isPrintLatin at hp
  simp only [Bool.or_eq_true, Bool.and_eq_true, decide_eq_true_eq] at hp
  omega

theorem enc_high {r : Int} (h : 128 ≤ r) : ∀ x ∈ Lib.encodeRuneZ r, 128 ≤ x ∧ x < 256 := by
  intro x hx
  refine ⟨?_, (Lib.encodeRuneZ_byte r x hx).2⟩
  unfold Lib.encodeRuneZ at hx
  repeat' split at hx
  all_goals
    simp only [List.mem_cons, List.not_mem_nil, or_false] at hx
    omega

theorem step_ascii {l : List UInt8} {K : Nat} {r : Nat} (h0 : 32 ≤ r) (h1 : r ≤ 126) (hq : r ≠ 34) (hb : r ≠ 92) (ht : num (l.take K) = [(r : Int)]) : Step l (byt [(r : Int)]) K := by
  have e : byt [(r : Int)] = [UInt8.ofNat r] := by simp [byt]
  have et : l.take K = [UInt8.ofNat r] := by rw [← byt_num (l.take K), ht, e]
  have hn : (UInt8.ofNat r).toNat = r := by rw [UInt8.toNat_ofNat']; omega
  have n34 : UInt8.ofNat r ≠ 34 := fun h => hq (by rw [← hn, h]; rfl)
  have n92 : UInt8.ofNat r ≠ 92 := fun h => hb (by rw [← hn, h]; rfl)
  have n10 : UInt8.ofNat r ≠ 10 := fun h => by
    have : (UInt8.ofNat r).toNat = 10 := by rw [h]; rfl
    omega
  rw [e]
  refine ⟨.inl ⟨et.symm, by simpa using n34.symm, by simpa using n92.symm⟩, fun rest => ⟨_, rest, rfl, n34, n10, (r : Int), false, ?_, ?_⟩⟩
  · show uc 34 (UInt8.ofNat r :: rest) = _
    unfold uc
    simp only []
    rw [if_neg (by omega), if_pos n92, hn]
  · rw [ht, put_byte (by omega) (by omega)]

theorem step_high {l : List UInt8} (hne : l ≠ []) (hv : ¬ ((Lib.decodeL l).1 = 65533 ∧ (Lib.decodeL l).2 = 1)) (h : 128 ≤ (Lib.decodeL l).1) : Step l (byt (Lib.encodeRuneZ ((Lib.decodeL l).1 : Int))) (Lib.decodeL l).2 := by
  have hz := num_take l hne hv
  have et : byt (Lib.encodeRuneZ ((Lib.decodeL l).1 : Int)) = l.take (Lib.decodeL l).2 := by rw [hz, byt_num]
  have hall : ∀ c ∈ l.take (Lib.decodeL l).2, 128 ≤ c.toNat := fun c hc => by
    have : (c.toNat : Int) ∈ Lib.encodeRuneZ ((Lib.decodeL l).1 : Int) := by rw [hz]; exact List.mem_map_of_mem hc
    have := (enc_high (by omega) _ this).1
    omega
  rw [et]
  refine ⟨.inl ⟨rfl, fun hm => by have := hall _ hm; simp at this, fun hm => by have := hall _ hm; simp at this⟩, fun rest => ?_⟩
  have hw := Lib.decodeL_width l
  have hle := Lib.decodeL_le l hne
  have hpre := decode_prefix l rest hne hv
  have hlen : (l.take (Lib.decodeL l).2).length = (Lib.decodeL l).2 := by rw [List.length_take]; omega
  obtain ⟨c, t, hct⟩ : ∃ c t, l.take (Lib.decodeL l).2 = c :: t := by
    cases hh : l.take (Lib.decodeL l).2 with
    | nil => rw [hh] at hlen; simp at hlen; omega
    | cons c t => exact ⟨c, t, rfl⟩
  have hc := hall c (by rw [hct]; exact List.mem_cons_self)
  refine ⟨c, t ++ rest, by rw [hct]; rfl, fun e => by rw [e] at hc; simp at hc, fun e => by rw [e] at hc; simp at hc, ((Lib.decodeL l).1 : Int), true, ?_, ?_⟩
  · have e1 : l.take (Lib.decodeL l).2 ++ rest = c :: (t ++ rest) := by rw [hct]; rfl
    have e2 : Utf8.decode (str (c :: (t ++ rest))) 0 = Lib.decodeL l := by rw [← e1]; exact hpre
    rw [e1]
    unfold uc
    simp only []
    rw [if_pos hc, e2, ← e1]
    congr 3
    rw [List.drop_append_of_le_length (by omega), List.drop_of_length_le (by omega), List.nil_append]
  · rw [put_rune (by omega), hz]

theorem step_of (T : Lib.PrintTabs) (l : List UInt8) (hne : l ≠ []) : Step l (byt (Lib.quoteStep T (str l))) (Lib.decodeL l).2 := by
  have hl : 0 < l.length := List.length_pos_iff.2 hne
  by_cases hbad : (Lib.decodeL l).2 = 1 ∧ (Lib.decodeL l).1 = 65533
  · have e : Lib.quoteStep T (str l) = [92, 120, Lib.hexDigit (l[0].toNat / 16), Lib.hexDigit (l[0].toNat % 16)] := by
      have h0 : 0 < (str l).size := by rw [str_size]; exact hl
      have := Lib.quoteStep_bad T (str l) h0 hbad.1.symm hbad.2.symm
      rw [str_get l 0 h0] at this
      exact this
    rw [e, hbad.1]
    have hb := UInt8.toNat_lt l[0]
    have ht : num (l.take 1) = [(l[0].toNat : Int)] := by
      cases l with
      | nil => simp at hl
      | cons a b => simp [num]
    refine step_esc (r := (l[0].toNat : Int)) (m := false) (fun rest => ?_) (by rw [ht, put_byte (by omega) (by omega)])
    refine (esc_x _).trans ?_
    exact ucx_hex rest (by simp) (hexv_two _ hb)
  · have e := Lib.quoteStep_good T (str l) hbad
    have hv : ¬ ((Lib.decodeL l).1 = 65533 ∧ (Lib.decodeL l).2 = 1) := fun h => hbad ⟨h.2, h.1⟩
    have hz := num_take l hne hv
    have hval : Lib.validRune ((Lib.decodeL l).1 : Int) = true := Lib.rune_valid (str l)
    have hbd := valid_bounds hval
    rw [e]
    show Step l (byt (Lib.escRune T ((Lib.decodeL l).1 : Int))) (Lib.decodeL l).2
    have hhigh := step_high hne hv
    generalize (Lib.decodeL l).2 = K at *
    generalize (Lib.decodeL l).1 = r at *
    clear e hbad
    have hone : r ≤ 127 → num (l.take K) = [(r : Int)] := fun h => by rw [← hz, Lib.encodeRuneZ_one (by omega) (by omega)]
    have named : ∀ d, r ≤ 127 → simpleEsc.lookup d = some (r : Int) → Step l [92, d] K := fun d h hd =>
      step_esc (r := (r : Int)) (m := false) (fun rest => esc_named d _ _ hd) (by rw [hone h, put_byte (by omega) (by omega)])
    unfold Lib.escRune
    by_cases c0 : (r : Int) = 34 ∨ (r : Int) = 92
    · rw [if_pos c0]
      rcases c0 with c0 | c0
      · rw [c0]
        have := hone (by omega)
        exact step_esc (r := 34) (m := false) (fun rest => esc_q _) (by rw [this, put_byte (by omega) (by omega), c0])
      · rw [c0]
        have := named 92 (by omega) (by rw [c0]; rfl)
        exact this
    rw [if_neg c0]
    by_cases c1 : Lib.isPrintR T r = true
    · rw [if_pos c1]
      by_cases hr : 128 ≤ r
      · exact hhigh hr
      · have hpl : Lib.isPrintLatin (r : Int) = true := by
          unfold Lib.isPrintR at c1
          rwa [if_pos (by omega)] at c1
        have := latin_ascii (by omega) (by omega) hpl
        rw [Lib.encodeRuneZ_one (by omega) (by omega)]
        exact step_ascii (by omega) (by omega) (by omega) (by omega) (hone (by omega))
    rw [if_neg c1]
    by_cases c2 : (r : Int) = 7
    · rw [if_pos c2]; exact named 97 (by omega) (by rw [c2]; rfl)
    rw [if_neg c2]
    by_cases c3 : (r : Int) = 8
    · rw [if_pos c3]; exact named 98 (by omega) (by rw [c3]; rfl)
    rw [if_neg c3]
    by_cases c4 : (r : Int) = 12
    · rw [if_pos c4]; exact named 102 (by omega) (by rw [c4]; rfl)
    rw [if_neg c4]
    by_cases c5 : (r : Int) = 10
    · rw [if_pos c5]; exact named 110 (by omega) (by rw [c5]; rfl)
    rw [if_neg c5]
    by_cases c6 : (r : Int) = 13
    · rw [if_pos c6]; exact named 114 (by omega) (by rw [c6]; rfl)
    rw [if_neg c6]
    by_cases c7 : (r : Int) = 9
    · rw [if_pos c7]; exact named 116 (by omega) (by rw [c7]; rfl)
    rw [if_neg c7]
    by_cases c8 : (r : Int) = 11
    · rw [if_pos c8]; exact named 118 (by omega) (by rw [c8]; rfl)
    rw [if_neg c8]
    by_cases c9 : (r : Int) < 32 ∨ (r : Int) = 127
    · rw [if_pos c9]
      refine step_esc (r := (r : Int)) (m := false) (fun rest => ?_) (by rw [hone (by omega), put_byte (by omega) (by omega)])
      refine (esc_x _).trans ?_
      exact ucx_hex rest (by simp) (hexv_two _ (by omega))
    rw [if_neg c9, if_neg (by rw [hval]; decide)]
    have hr128 : 128 ≤ r := by
      rcases Nat.lt_or_ge r 128 with h | h
      · exfalso
        apply c1
        unfold Lib.isPrintR Lib.isPrintLatin
        rw [if_pos (by omega)]
        simp only [Bool.or_eq_true, Bool.and_eq_true, decide_eq_true_eq]
        omega
      · exact h
    by_cases c11 : (r : Int) < 65536
    · rw [if_pos c11]
      refine step_esc (r := (r : Int)) (m := true) (fun rest => ?_) (by rw [put_rune (by omega), hz])
      refine (esc_u _).trans ?_
      exact ucu_hex 4 rest (by simp [hexDigits_length]) (hexv_four _ (by omega)) hval
    · rw [if_neg c11]
      refine step_esc (r := (r : Int)) (m := true) (fun rest => ?_) (by rw [put_rune (by omega), hz])
      refine (esc_U _).trans ?_
      exact ucu_hex 8 rest (by simp [hexDigits_length]) (hexv_eight _ (by omega)) hval

end Go.Proofs.Qxb6609089aDoor.Uq
