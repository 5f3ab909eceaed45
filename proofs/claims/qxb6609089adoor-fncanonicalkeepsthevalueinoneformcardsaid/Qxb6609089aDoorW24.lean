import Derived.Test.Qxb6609089aDoorW23
set_option linter.unusedSimpArgs false
set_option linter.unusedVariables false
namespace Go.Proofs.Qxb6609089aDoor
open Go Go.RowKit
attribute [local go_sem] str_size str_get str_extract str_toList str_append str_data

/-- The tables and the error that the walks read. -/
structure CT (T : Lib.PrintTabs) (t : TypeId) (x : Value) (w : World) : Prop where
  s : Syn w t x
  u : Lib.Utf8Tabs 3 4 w
  p : Lib.PrintTabsAt 6 7 8 9 T w
theorem CT.below {T : Lib.PrintTabs} {t : TypeId} {x : Value} {w w' : World} (h : CT T t x w) (hb : Below w.heap.size w w') : CT T t x w' :=
  ⟨h.s.below hb, Utf8Tabs_below h.u hb, printTabs_below h.p hb⟩

set_option maxHeartbeats 400000 in
theorem Str_calls (k : Int) (b : Bool) (i : Int) (l : List UInt8) (T : Lib.PrintTabs) (w : World) (t : TypeId) (x : Value) (hl : l.length ≤ 1000000000) (hC : CT T t x w) :
    Calls Tryd.prog 8 #[.agg #[.int .u8 k, .bool b, .int .i64 i, .string (str l)]] w fun e w' => e = .returned (.string (Uq.unq l)) ∧ Below w.heap.size w w' := by
  have cU := fun w' (hb : Below w.heap.size w w') => Unquote_calls l w' t x hl (hC.below hb).s (hC.below hb).u
  clear hC
  go_enter Tryd.func8, Tryd.ntmps8
  go_wp2_with fail
  refine (cU _ ((Below.refl _ _).alloc (Nat.le_refl _) _)).mono ?_
  rintro e w2 ⟨v, rfl, hb2⟩
  have hba := (Below.refl w.heap.size w).alloc (Nat.le_refl _) (.cells #[.int .u8 k, .bool b, .int .i64 i, .string (str l)] 25)
  go_wp2_with fail
  go_ret
  exact ⟨rfl, hba.trans (hb2.mono hba.size)⟩

set_option maxHeartbeats 400000 in
theorem Canon_other (k : Int) (b : Bool) (i : Int) (s : ByteArray) (w : World) (hk : k ≠ 3) :
    Calls Tryd.prog 7 #[.agg #[.int .u8 k, .bool b, .int .i64 i, .string s]] w fun e w' => e = .returned (.agg #[.int .u8 k, .bool b, .int .i64 i, .string s]) ∧ Below w.heap.size w w' := by
  have hk' : (k == 3) = false := by rw [beq_eq_false_iff_ne]; exact hk
  go_enter Tryd.func7, Tryd.ntmps7
  go_wp2_with fail
  refine bodyPost_ret (by simp [results, Tryd.results7, go_sem]; try rfl) rfl ?_
  exact ⟨rfl, ((Below.refl _ _).alloc (Nat.le_refl _) _).alloc (by simp) _⟩

/-- What Canonical writes for a String. -/
def canonS (T : Lib.PrintTabs) (l : List UInt8) : ByteArray := strOfNums (Lib.quoteZ T (Uq.unq l))

set_option maxHeartbeats 800000 in
theorem Canon_string (b : Bool) (i : Int) (l : List UInt8) (T : Lib.PrintTabs) (w : World) (t : TypeId) (x : Value) (hl : l.length ≤ 1000000000) (hC : CT T t x w) :
    Calls Tryd.prog 7 #[.agg #[.int .u8 3, .bool b, .int .i64 i, .string (str l)]] w fun e w' => e = .returned (.agg #[.int .u8 3, .bool b, .int .i64 i, .string (canonS T l)]) ∧ Below w.heap.size w w' := by
  have hsz := Uq.unq_size l
  have cS := fun w' (hb : Below w.heap.size w w') => Str_calls 3 b i l T w' t x hl (hC.below hb)
  have cQ : ∀ w', Below w.heap.size w w' → Calls Tryd.prog 15 #[.string (Uq.unq l)] w' fun e w'' => e = .returned (.string (canonS T l)) ∧ Below w'.heap.size w' w'' := fun w' hb =>
    Any.strconv_Quote Tryd.lays177 Tryd.info5' T (Uq.unq l) w' (by omega) (hC.below hb).p (hC.below hb).u
  obtain ⟨C, hCc⟩ : ∃ C, canonS T l = C := ⟨_, rfl⟩
  obtain ⟨U, hUu⟩ : ∃ U, Uq.unq l = U := ⟨_, rfl⟩
  rw [hCc] at cQ ⊢
  rw [hUu] at cQ
  simp only [hUu] at cS
  clear hC hsz
  go_enter Tryd.func7, Tryd.ntmps7
  go_wp2_with fail
  refine (cS _ (((Below.refl _ _).alloc (Nat.le_refl _) _).alloc (by simp) _)).mono ?_
  rintro e w2 ⟨rfl, hb2⟩
  have hba := ((Below.refl w.heap.size w).alloc (Nat.le_refl _) (.cells #[.int .u8 3, .bool b, .int .i64 i, .string (str l)] 25)).alloc (show w.heap.size ≤ (w.alloc (.cells #[.int .u8 3, .bool b, .int .i64 i, .string (str l)] 25)).heap.size by simp) (.cells #[.int .u8 0, .bool false, .int .i64 0, .string ⟨#[]⟩] 25)
  have hB2 := hba.trans (hb2.mono hba.size)
  go_wp2_with fail
  refine (cQ _ hB2).mono ?_
  rintro e w3 ⟨rfl, hb3⟩
  have hbb := hb2.trans (hb3.mono hb2.size)
  have d0 : ∀ k, w3.cell? ⟨w.heap.size, k, none⟩ = _ := fun k => hbb.cell (p := ⟨w.heap.size, k, none⟩) (by simp; omega)
  have d1 : ∀ k, w3.cell? ⟨w.heap.size + 1, k, none⟩ = _ := fun k => hbb.cell (p := ⟨w.heap.size + 1, k, none⟩) (by simp)
  have f0 : ∀ k, w3.frozen? ⟨w.heap.size, k, none⟩ = _ := fun k => hbb.frozen (p := ⟨w.heap.size, k, none⟩) (by simp; omega)
  have f1 : ∀ k, w3.frozen? ⟨w.heap.size + 1, k, none⟩ = _ := fun k => hbb.frozen (p := ⟨w.heap.size + 1, k, none⟩) (by simp)
  have c00 := d0 0; have c01 := d0 1; have c02 := d0 2; have c03 := d0 3
  have c10 := d1 0; have c11 := d1 1; have c12 := d1 2; have c13 := d1 3
  have g00 := f0 0; have g01 := f0 1; have g02 := f0 2; have g03 := f0 3
  have g10 := f1 0; have g11 := f1 1; have g12 := f1 2; have g13 := f1 3
  clear d0 d1 f0 f1
  simp [go_sem] at c00 c01 c02 c03 c10 c11 c12 c13 g00 g01 g02 g03 g10 g11 g12 g13
  have hB3 := hB2.trans (hb3.mono hB2.size)
  go_wp2_with fail
  refine bodyPost_ret (by simp [results, Tryd.results7, go_sem, c00, c01, c02, c03, c10, c11, c12, c13]; try rfl) rfl ?_
  exact ⟨rfl, ((((hB3.setCell (Nat.le_refl _) _).setCell (Nat.le_succ _) _).setCell (Nat.le_succ _) _).setCell (Nat.le_succ _) _).setCell (Nat.le_succ _) _⟩

/-- A printable ASCII byte that is neither a quote nor a backslash. -/
def plainB (c : UInt8) : Bool := !(decide (c.toNat < 32) || decide (126 < c.toNat) || c == 34 || c == 92)

set_option maxHeartbeats 800000 in
theorem plain_calls (l : List UInt8) (w : World) (hl : l.length ≤ 100000000000) :
    Calls Tryd.prog 9 #[.string (str l)] w fun e w' => e = .returned (.bool (l.all plainB)) ∧ w' = w := by
  go_enter Tryd.func9, Tryd.ntmps9
  go_wp2_with fail
  go_loop [3] (fun i => ∃ k : Nat, k ≤ l.length ∧ i = .int .i64 k ∧ Hid ((l.take k).all plainB = true)) (fun i => l.length - (intOf i).toNat)
  case atStart => exact ⟨0, Nat.zero_le _, rfl, by show _ = _; simp⟩
  case round =>
    obtain ⟨k, hk, rfl, hall⟩ := hrel
    by_cases hlt : k < l.length
    · have h256 := UInt8.toNat_lt l[k]
      have HT : Hid (plainB l[k] = true → (l.take (k + 1)).all plainB = true) := fun h => by
        rw [List.take_succ_eq_append_getElem hlt, List.all_append, hall.out]
        simp [h]
      have HN : Hid (plainB l[k] = false → l.all plainB = false) := fun h => by
        rw [List.all_eq_false]
        exact ⟨l[k], List.getElem_mem _, by rw [h]; simp⟩
      by_cases hp : plainB l[k] = true
      · have hp' := hp
        simp only [plainB, Bool.not_eq_true', Bool.or_eq_false_iff, decide_eq_false_iff_not, beq_eq_false_iff_ne] at hp'
        have q1 : ¬ ((l[k].toNat : Int) < 32) := by omega
        have q2 : ¬ ((l[k].toNat : Int) > 126) := by omega
        have q3 : ((l[k].toNat : Int) == 34) = false := ne_k (nat_ne hp'.1.2 rfl)
        have q4 : ((l[k].toNat : Int) == 92) = false := ne_k (nat_ne hp'.2 rfl)
        have HP : Hid (plainB l[k] = true) := hp
        clear hp' hp
        go_wp2_with fail
        exact ⟨⟨k + 1, by omega, by go_num, HT.out HP.out⟩, by simp [intOf]; omega⟩
      · have hp' : plainB l[k] = false := by simpa using hp
        have hor : (l[k].toNat : Int) < 32 ∨ (126 : Int) < l[k].toNat ∨ ((l[k].toNat : Int) == 34) = true ∨ ((l[k].toNat : Int) == 92) = true := by
          have h := hp'
          simp only [plainB, Bool.not_eq_false', Bool.or_eq_true, decide_eq_true_eq, beq_iff_eq] at h
          rcases h with ((h | h) | h) | h
          · exact .inl (by omega)
          · exact .inr (.inl (by omega))
          · exact .inr (.inr (.inl (by rw [h]; rfl)))
          · exact .inr (.inr (.inr (by rw [h]; rfl)))
        have HP : Hid (l.all plainB = false) := HN.out hp'
        have HO : Hid ((l[k].toNat : Int) < 32 ∨ (126 : Int) < l[k].toNat ∨ ((l[k].toNat : Int) == 34) = true ∨ ((l[k].toNat : Int) == 92) = true) := hor
        clear hp hp' hor
        go_wp2_with fail
        iterate 4
          go_ret
          rw [HP.out]
          exact ⟨rfl, rfl⟩
        exfalso
        have h1 : ¬ (l[k].toNat : Int) < 32 := by assumption
        have h2 : ¬ (126 : Int) < l[k].toNat := by assumption
        have h3 : ¬ (l[k].toNat : Int) = 34 := by assumption
        have h4 : ((l[k].toNat : Int) == 92) = false := by assumption
        rcases HO.out with h | h | h | h
        · exact h1 h
        · exact h2 h
        · exact h3 (by simpa using h)
        · rw [h4] at h; cases h
    · obtain rfl : k = l.length := by omega
      have HP : Hid (l.all plainB = true) := by have := hall.out; rwa [List.take_length] at this
      go_wp2_with fail
      go_ret
      rw [HP.out]
      exact ⟨rfl, rfl⟩

end Go.Proofs.Qxb6609089aDoor
