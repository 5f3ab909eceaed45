import Derived.Test.Qxb6606206aGreatDoorW28
set_option linter.unusedSimpArgs false
set_option linter.unusedVariables false
namespace Go.Proofs.Qxb6606206aGreatDoor
open Go Go.RowKit
attribute [local go_sem] str_size str_get str_extract str_toList str_append

def has (s : List (List UInt8)) : Bool := s.any fun p => isQ (nameOf p)
/-- Either what is left of the text after i, or nothing at all. -/
def left (l : List UInt8) (i : Nat) : List (List UInt8) := if i ≤ l.length then segs (l.drop i) else []
theorem left_step (l : List UInt8) (i j : Nat) (hij : i ≤ j) (hj : j ≤ l.length) (h1 : ∀ k, i ≤ k → k < j → l[k]? ≠ some 59) (h2 : j = l.length ∨ l[j]? = some 59) :
    left l i = (l.take j).drop i :: left l (j + 1) := by
  unfold left
  rw [if_pos (by omega)]
  have hno : (59 : UInt8) ∉ (l.take j).drop i := fun hm => by
    obtain ⟨k, hk, ek⟩ := List.getElem_of_mem hm
    rw [List.getElem_drop, List.getElem_take] at ek
    rw [List.length_drop, List.length_take] at hk
    exact h1 (i + k) (by omega) (by omega) (by rw [List.getElem?_eq_getElem (by omega), ek])
  rcases h2 with h2 | h2
  · rw [if_neg (by omega)]
    rw [← segs_no _ hno, h2, List.take_length]
  · obtain ⟨hlt, e⟩ := List.getElem?_eq_some_iff.1 h2
    rw [if_pos (by omega), ← segs_at _ _ hno]
    congr 1
    have h3 : l = l.take j ++ 59 :: l.drop (j + 1) := by
      have := List.take_append_drop j l
      rw [List.drop_eq_getElem_cons hlt, e] at this
      exact this.symm
    conv => lhs; rw [h3]
    rw [List.drop_append, List.length_take]
    rw [show i - min j l.length = 0 from by omega, List.drop_zero]
theorem nameOf_ix_no {p : List UInt8} (h : Lib.indexByte p 61 = -1) : nameOf p = Lib.trimS p [32, 9] := by
  unfold nameOf Lib.cut
  rw [Lib.index_one, h, if_neg (by omega)]
theorem nameOf_ix {p : List UInt8} {k : Nat} (h : Lib.indexByte p 61 = k) : nameOf p = Lib.trimS (p.take k) [32, 9] := by
  unfold nameOf Lib.cut
  rw [Lib.index_one, h, if_pos (by omega), Int.toNat_natCast]

theorem lst_ne {a b : List UInt8} (h : ¬ a = b) : (a == b) = false := by simp [h]

def hqPost (w : World) (r : Bool) (e : Ending) (w' : World) : Prop := e = .returned (.bool r) ∧ w' = w
set_option maxHeartbeats 6400000 in
set_option maxRecDepth 20000 in
theorem hasq_calls (l : List UInt8) (hl : l.length ≤ 100000000) (w : World) : Calls Tryz.prog 8 #[.string (str l)] w (hqPost w (has (segs l))) := by
  obtain ⟨R, hR⟩ : ∃ R, has (segs l) = R := ⟨_, rfl⟩
  have HR : Hid (has (left l 0) = R) := by
    show _ = _
    rw [← hR]; unfold left; rw [if_pos (by omega), List.drop_zero]
  rw [hR]
  clear hR
  go_enter Tryz.func8, Tryz.ntmps8
  go_wp2_with fail
  go_loopg [3] (l.length + 1) (fun f v3 wr => ∃ i : Nat, v3 = .int .i64 i ∧ f + i = l.length + 1 ∧ wr = w ∧ Hid (has (left l i) = R))
  case atStart => exact ⟨0, rfl, by omega, rfl, HR⟩
  case round =>
    obtain ⟨i, rfl, hf, hwr, hq⟩ := hrel
    have hwr' := hwr.symm
    subst hwr'
    clear hwr HR
    by_cases hi : i ≤ l.length
    · go_upto_block 2 with fail
      go_cut [4] from 14 to 25 (fun v4 wx => ∃ j : Nat, v4 = .int .i64 j ∧ i ≤ j ∧ j ≤ l.length ∧ wx = w ∧ Hid (left l i = (l.take j).drop i :: left l (j + 1)))
      case first =>
        clear hq
        go_wp2_with fail
        go_loopg [4] (l.length - i) (fun f v4 wr => ∃ j : Nat, v4 = .int .i64 j ∧ f + j = l.length ∧ i ≤ j ∧ wr = w ∧ Hid (∀ k, i ≤ k → k < j → l[k]? ≠ some 59))
        case atStart => exact ⟨i, rfl, by omega, by omega, rfl, fun k h1 h2 => absurd h2 (by omega)⟩
        case round =>
          obtain ⟨j, rfl, hfj, hij, hwr, hq⟩ := hrel
          have hwr' := hwr.symm
          subst hwr'
          clear hwr
          by_cases hlt : j < l.length
          · have hc := UInt8.toNat_lt l[j]
            by_cases he : (l[j].toNat : Int) = 59
            · have hst : Hid (left l i = (l.take j).drop i :: left l (j + 1)) := left_step l i j hij (by omega) hq.out (.inr (by rw [List.getElem?_eq_getElem hlt, u8_eq (n := 59) (by omega) he]; rfl))
              clear hq
              go_wp2_with fail
              go_meet
              exact ⟨j, rfl, hij, by omega, by trivial, hst⟩
            · have hq2 : Hid (∀ k, i ≤ k → k < j + 1 → l[k]? ≠ some 59) := fun k h1 h2 h => by
                by_cases hk : k < j
                · exact hq.out k h1 hk h
                · have : k = j := by omega
                  subst this
                  rw [List.getElem?_eq_getElem hlt] at h
                  injection h with h
                  exact he (by rw [h]; rfl)
              clear hq
              go_wp2_with fail
              go_roundg (l.length - (j + 1))
              case measure => omega
              case rel => exact ⟨j + 1, rfl, by omega, by omega, by trivial, hq2⟩
          · have hst : Hid (left l i = (l.take j).drop i :: left l (j + 1)) := left_step l i j hij (by omega) hq.out (.inl (by omega))
            clear hq
            go_wp2_with fail
            go_meet
            exact ⟨j, rfl, hij, by omega, by trivial, hst⟩
      case rest =>
        obtain ⟨j, rfl, hij, hj, hww, hst⟩ := hcut
        have hww' := hww.symm
        subst hww'
        clear hww
        have hst2 : Hid (R = (isQ (nameOf ((l.take j).drop i)) || has (left l (j + 1)))) := by
          show _ = _
          rw [← hq.out, hst.out]; rfl
        have hpl : ((l.take j).drop i).length ≤ 100000000 := by rw [List.length_drop, List.length_take]; omega
        have cI := ix_calls ((l.take j).drop i) (by omega) w
        have hge := Lib.indexByte_ge ((l.take j).drop i) 61
        clear hq hst
        by_cases hix : Lib.indexByte ((l.take j).drop i) 61 = -1
        · have cT := ts_calls ((l.take j).drop i) (by omega) w
          rw [← nameOf_ix_no hix] at cT
          rw [hix] at cI
          generalize nameOf ((l.take j).drop i) = nm at cT hst2
          clear hge hix
          go_upto_region 12 with (first | (go_at_call 17; go_fit cI; rintro e w2 ⟨rfl, hw2⟩; have hw2' := hw2.symm; subst hw2'; clear hw2) | (go_at_call 18; go_fit cT; rintro e w3 ⟨rfl, hw3⟩; have hw3' := hw3.symm; subst hw3'; clear hw3))
          by_cases hn1 : nm = [113]
          · have hR1 : Hid (R = true) := by show _ = _; rw [hst2.out, hn1]; rfl
            clear hst2
            subst hn1
            go_wp2_with fail
            go_ret
            exact ⟨by rw [hR1.out]; rfl, rfl⟩
          · by_cases hn2 : nm = [81]
            · have hR1 : Hid (R = true) := by show _ = _; rw [hst2.out, hn2]; rfl
              clear hst2
              subst hn2
              go_wp2_with fail
              go_ret
              exact ⟨by rw [hR1.out]; rfl, rfl⟩
            · have hq2 : Hid (has (left l (j + 1)) = R) := by
                show _ = _
                rw [hst2.out, show isQ nm = false from by unfold isQ; simp [hn1, hn2]]; rfl
              have hs1 := lst_ne hn1
              have hs2 := lst_ne hn2
              clear hst2
              go_wp2_with fail
              go_roundg (l.length - j)
              case measure => omega
              case rel => exact ⟨j + 1, rfl, by omega, by trivial, hq2⟩
        · obtain ⟨k, hk⟩ := Int.eq_ofNat_of_zero_le (show 0 ≤ Lib.indexByte ((l.take j).drop i) 61 by omega)
          have hkl := (List.getElem?_eq_some_iff.1 (Lib.indexByte_some hk).1).1
          have cT := ts_calls (((l.take j).drop i).take k) (by rw [List.length_take]; omega) w
          rw [← nameOf_ix hk] at cT
          rw [hk] at cI
          have hlen : ((l.take j).drop i).length = j - i := by rw [List.length_drop, List.length_take]; omega
          generalize nameOf ((l.take j).drop i) = nm at cT hst2
          clear hge hix hk
          go_upto_region 12 with (first | (go_at_call 17; go_fit cI; rintro e w2 ⟨rfl, hw2⟩; have hw2' := hw2.symm; subst hw2'; clear hw2) | (go_at_call 18; go_fit cT; rintro e w3 ⟨rfl, hw3⟩; have hw3' := hw3.symm; subst hw3'; clear hw3))
          by_cases hn1 : nm = [113]
          · have hR1 : Hid (R = true) := by show _ = _; rw [hst2.out, hn1]; rfl
            clear hst2
            subst hn1
            go_wp2_with fail
            go_ret
            exact ⟨by rw [hR1.out]; rfl, rfl⟩
          · by_cases hn2 : nm = [81]
            · have hR1 : Hid (R = true) := by show _ = _; rw [hst2.out, hn2]; rfl
              clear hst2
              subst hn2
              go_wp2_with fail
              go_ret
              exact ⟨by rw [hR1.out]; rfl, rfl⟩
            · have hq2 : Hid (has (left l (j + 1)) = R) := by
                show _ = _
                rw [hst2.out, show isQ nm = false from by unfold isQ; simp [hn1, hn2]]; rfl
              have hs1 := lst_ne hn1
              have hs2 := lst_ne hn2
              clear hst2
              go_wp2_with fail
              go_roundg (l.length - j)
              case measure => omega
              case rel => exact ⟨j + 1, rfl, by omega, by trivial, hq2⟩
    · have hR0 : Hid (R = false) := by
        show _ = _
        rw [← hq.out]; unfold left; rw [if_neg hi]; rfl
      clear hq
      go_wp2_with fail
      go_ret
      exact ⟨by rw [hR0.out]; rfl, rfl⟩
end Go.Proofs.Qxb6606206aGreatDoor
