import Derived.Test.Qxb6606206aGreatDoorW27
set_option linter.unusedSimpArgs false
set_option linter.unusedVariables false
namespace Go.Proofs.Qxb6606206aGreatDoor
open Go Go.RowKit
attribute [local go_sem] str_size str_get str_extract str_toList str_append

def ixPost (w : World) (r : Int) (e : Ending) (w' : World) : Prop := e = .returned (.int .i64 r) ∧ w' = w
theorem ix_at {l : List UInt8} {i : Nat} (h : l[i]? = some 61) (hk : ∀ k, k < i → l[k]? ≠ some 61) : Lib.indexByte l 61 = i := by
  have hge := Lib.indexByte_ge l 61
  by_cases hn : Lib.indexByte l 61 = -1
  · exact absurd h (Lib.indexByte_none hn i)
  · obtain ⟨o, ho⟩ := Int.eq_ofNat_of_zero_le (show 0 ≤ Lib.indexByte l 61 by omega)
    obtain ⟨h1, h2⟩ := Lib.indexByte_some ho
    have a : ¬ i < o := fun hlt => h2 i hlt h
    have b : ¬ o < i := fun hlt => hk o hlt h1
    have : i = o := by omega
    rw [ho, this]
theorem ix_no {l : List UInt8} (hk : ∀ k, k < l.length → l[k]? ≠ some 61) : Lib.indexByte l 61 = -1 := by
  have hge := Lib.indexByte_ge l 61
  by_cases hn : Lib.indexByte l 61 = -1
  · exact hn
  · obtain ⟨o, ho⟩ := Int.eq_ofNat_of_zero_le (show 0 ≤ Lib.indexByte l 61 by omega)
    obtain ⟨h1, h2⟩ := Lib.indexByte_some ho
    exact absurd h1 (hk o (List.getElem?_eq_some_iff.1 h1).1)
theorem u8_eq {c : UInt8} {n : Nat} (hn : n < 256) (h : (c.toNat : Int) = (n : Int)) : c = n.toUInt8 := by
  apply UInt8.toNat.inj
  rw [Nat.toUInt8, UInt8.toNat_ofNat']
  omega

set_option maxHeartbeats 1600000 in
theorem ix_calls (l : List UInt8) (hl : l.length ≤ 1000000000) (w : World) : Calls Tryz.prog 17 #[.string (str l), .int .u8 61] w (ixPost w (Lib.indexByte l 61)) := by
  go_enter Tryz.func17, Tryz.ntmps17
  go_wp2
  go_loopw [5] (fun vi wr => ∃ i : Nat, vi = .int .i64 i ∧ i ≤ l.length ∧ wr = w ∧ Hid (∀ k, k < i → l[k]? ≠ some 61)) (fun vi _ => l.length - (intOf vi).toNat)
  case atStart => exact ⟨0, rfl, by omega, rfl, fun k hk => absurd hk (by omega)⟩
  case round =>
    obtain ⟨i, rfl, hi, rfl, hq⟩ := hrel
    by_cases hlt : i < l.length
    · have hc := UInt8.toNat_lt l[i]
      by_cases he : (l[i].toNat : Int) = 61
      · have hR : Hid (Lib.indexByte l 61 = i) := ix_at (by rw [List.getElem?_eq_getElem hlt, u8_eq (n := 61) (by omega) he]; rfl) hq.out
        clear hq
        go_wp2
        go_ret
        exact ⟨by rw [hR.out]; rfl, rfl⟩
      · have hq2 : Hid (∀ k, k < i + 1 → l[k]? ≠ some 61) := fun k hk h => by
          by_cases hki : k < i
          · exact hq.out k hki h
          · have : k = i := by omega
            subst this
            rw [List.getElem?_eq_getElem hlt] at h
            injection h with h
            exact he (by rw [h]; rfl)
        clear hq
        go_wp2
        exact ⟨⟨i + 1, rfl, by omega, by trivial, hq2⟩, by simp [intOf]; omega⟩
    · have hR : Hid (Lib.indexByte l 61 = -1) := ix_no fun k hk => hq.out k (by omega)
      clear hq
      go_wp2
      go_ret
      exact ⟨by rw [hR.out]; rfl, rfl⟩

def Sp (b : UInt8) : Prop := b = 32 ∨ b = 9
theorem sp_has (b : UInt8) : [32, 9].contains b = true ↔ Sp b := by
  unfold Sp; simp
theorem sp_hasnt (b : UInt8) : [32, 9].contains b = false ↔ ¬ Sp b := by
  unfold Sp; simp
theorem trim_at (l : List UInt8) (i j : Nat) (hij : i ≤ j) (hj : j ≤ l.length) (h1 : ∀ (k : Nat) b, k < i → l[k]? = some b → Sp b) (h2 : ∀ (k : Nat) b, j ≤ k → l[k]? = some b → Sp b)
    (h3 : ∀ b, l[i]? = some b → ¬ Sp b) (h4 : ∀ b, i < j → l[j - 1]? = some b → ¬ Sp b) : Lib.trimS l [32, 9] = (l.take j).drop i := by
  unfold Lib.trimS
  by_cases hi : i < l.length
  · have hlt : i < j := by
      rcases Nat.lt_or_ge i j with h | h
      · exact h
      · exact absurd (h2 i l[i] h (List.getElem?_eq_getElem hi)) (h3 _ (List.getElem?_eq_getElem hi))
    rw [Lib.trimRightS_take l [32, 9] j hj (fun k b hk hb => (sp_has b).2 (h2 k b hk hb)) (fun b _ hb => (sp_hasnt b).2 (h4 b hlt hb))]
    refine Lib.trimLeftS_drop _ _ i (by rw [List.length_take]; omega) (fun k b hk hb => (sp_has b).2 (h1 k b hk ?_)) (fun b hb => (sp_hasnt b).2 (h3 b ?_))
    · rw [List.getElem?_take, if_pos (by omega)] at hb; exact hb
    · rw [List.getElem?_take, if_pos (by omega)] at hb; exact hb
  · rw [Lib.trimRightS_take l [32, 9] 0 (Nat.zero_le _) (fun k b _ hb => (sp_has b).2 (h1 k b (by have := (List.getElem?_eq_some_iff.1 hb).1; omega) hb)) (fun b h _ => absurd h (by omega))]
    rw [List.drop_eq_nil_of_le (by rw [List.length_take]; omega)]
    rfl

def tsPost (w : World) (r : List UInt8) (e : Ending) (w' : World) : Prop := e = .returned (.string (str r)) ∧ w' = w
set_option maxHeartbeats 3200000 in
set_option maxRecDepth 20000 in
theorem ts_calls (l : List UInt8) (hl : l.length ≤ 1000000000) (w : World) : Calls Tryz.prog 18 #[.string (str l)] w (tsPost w (Lib.trimS l [32, 9])) := by
  go_enter Tryz.func18, Tryz.ntmps18
  go_upto_block 0 with (fail)
  go_cut [3] from 5 to 22 (fun v3 wx => ∃ i : Nat, v3 = .int .i64 i ∧ i ≤ l.length ∧ wx = w ∧ Hid (∀ (k : Nat) b, k < i → l[k]? = some b → Sp b) ∧ Hid (∀ b, l[i]? = some b → ¬ Sp b))
  case first =>
    go_wp2
    go_loopw [3] (fun vi wr => ∃ i : Nat, vi = .int .i64 i ∧ i ≤ l.length ∧ wr = w ∧ Hid (∀ (k : Nat) b, k < i → l[k]? = some b → Sp b)) (fun vi _ => l.length - (intOf vi).toNat)
    case atStart => exact ⟨0, rfl, by omega, rfl, fun k b hk => absurd hk (by omega)⟩
    case round =>
      obtain ⟨i, rfl, hi, rfl, hq⟩ := hrel
      by_cases hlt : i < l.length
      · have hc := UInt8.toNat_lt l[i]
        have hsp : Hid (Sp l[i] → ∀ (k : Nat) b, k < i + 1 → l[k]? = some b → Sp b) := fun hs k b hk hb => by
          by_cases hki : k < i
          · exact hq.out k b hki hb
          · have : k = i := by omega
            subst this
            rw [List.getElem?_eq_getElem hlt] at hb
            injection hb with hb
            rw [← hb]; exact hs
        by_cases he : (l[i].toNat : Int) = 32
        · have hq2 : Hid (∀ (k : Nat) b, k < i + 1 → l[k]? = some b → Sp b) := hsp.out (.inl (u8_eq (n := 32) (by omega) he))
          clear hq hsp
          go_wp2
          exact ⟨⟨i + 1, rfl, by omega, by trivial, hq2⟩, by simp [intOf]; omega⟩
        · by_cases he2 : (l[i].toNat : Int) = 9
          · have hq2 : Hid (∀ (k : Nat) b, k < i + 1 → l[k]? = some b → Sp b) := hsp.out (.inr (u8_eq (n := 9) (by omega) he2))
            clear hq hsp
            go_wp2
            exact ⟨⟨i + 1, rfl, by omega, by trivial, hq2⟩, by simp [intOf]; omega⟩
          · have hno : Hid (∀ b, l[i]? = some b → ¬ Sp b) := fun b hb hs => by
              rw [List.getElem?_eq_getElem hlt] at hb
              injection hb with hb
              rw [hb] at he he2
              rcases hs with hs | hs
              · exact he (by rw [hs]; rfl)
              · exact he2 (by rw [hs]; rfl)
            clear hsp
            have d1 : ((l[i].toNat : Int) == 32) = false := beq_eq_false_iff_ne.2 he
            have d2 : ((l[i].toNat : Int) == 9) = false := beq_eq_false_iff_ne.2 he2
            go_wp2
            go_meet
            exact ⟨i, rfl, hi, rfl, hq, hno⟩
      · have hno : Hid (∀ b, l[i]? = some b → ¬ Sp b) := fun b hb hs => by
          have := (List.getElem?_eq_some_iff.1 hb).1
          omega
        go_wp2
        go_meet
        exact ⟨i, rfl, hi, rfl, hq, hno⟩
  case rest =>
    obtain ⟨i, rfl, hi, hww, h1, h3⟩ := hcut
    have hww' := hww.symm
    subst hww'
    clear hww
    go_wp2
    go_loopw [4] (fun vi wr => ∃ j : Nat, vi = .int .i64 j ∧ i ≤ j ∧ j ≤ l.length ∧ wr = w ∧ Hid (∀ (k : Nat) b, j ≤ k → l[k]? = some b → Sp b)) (fun vi _ => (intOf vi).toNat)
    case atStart => exact ⟨l.length, rfl, by omega, by omega, rfl, fun k b hk hb => by have := (List.getElem?_eq_some_iff.1 hb).1; omega⟩
    case round =>
      obtain ⟨j, rfl, hij, hj, rfl, hq⟩ := hrel
      by_cases hlt : i < j
      · obtain ⟨j, rfl⟩ : ∃ j', j = j' + 1 := ⟨j - 1, by omega⟩
        have hc := UInt8.toNat_lt l[j]
        have hsp : Hid (Sp l[j] → ∀ (k : Nat) b, j ≤ k → l[k]? = some b → Sp b) := fun hs k b hk hb => by
          by_cases hki : j + 1 ≤ k
          · exact hq.out k b hki hb
          · have : k = j := by omega
            subst this
            rw [List.getElem?_eq_getElem (by omega)] at hb
            injection hb with hb
            rw [← hb]; exact hs
        by_cases he : (l[j].toNat : Int) = 32
        · have hq2 := hid_of (hsp.out (.inl (u8_eq (n := 32) (by omega) he)))
          clear hq hsp h1 h3
          go_wp2
          exact ⟨⟨j, by simp, by omega, by omega, by trivial, hq2⟩, by simp [intOf]⟩
        · by_cases he2 : (l[j].toNat : Int) = 9
          · have hq2 := hid_of (hsp.out (.inr (u8_eq (n := 9) (by omega) he2)))
            clear hq hsp h1 h3
            go_wp2
            exact ⟨⟨j, by simp, by omega, by omega, by trivial, hq2⟩, by simp [intOf]⟩
          · have hR : Hid (Lib.trimS l [32, 9] = (l.take (j + 1)).drop i) := trim_at l i (j + 1) hij hj h1.out hq.out h3.out fun b _ hb hs => by
              rw [Nat.add_sub_cancel, List.getElem?_eq_getElem (by omega)] at hb
              injection hb with hb
              rw [hb] at he he2
              rcases hs with hs | hs
              · exact he (by rw [hs]; rfl)
              · exact he2 (by rw [hs]; rfl)
            clear hsp hq h1 h3
            have d1 : ((l[j].toNat : Int) == 32) = false := beq_eq_false_iff_ne.2 he
            have d2 : ((l[j].toNat : Int) == 9) = false := beq_eq_false_iff_ne.2 he2
            go_wp2
            go_ret
            exact ⟨by rw [hR.out]; rfl, rfl⟩
      · have hR : Hid (Lib.trimS l [32, 9] = (l.take j).drop i) := trim_at l i j hij hj h1.out hq.out h3.out fun b h => absurd h hlt
        clear hq h1 h3
        go_wp2
        go_ret
        exact ⟨by rw [hR.out]; rfl, rfl⟩
end Go.Proofs.Qxb6606206aGreatDoor
