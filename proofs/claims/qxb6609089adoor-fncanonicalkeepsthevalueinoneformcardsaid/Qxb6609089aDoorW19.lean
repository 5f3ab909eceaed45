import Derived.Test.Qxb6609089aDoorW17
set_option linter.unusedSimpArgs false
set_option linter.unusedVariables false
namespace Go.Proofs.Qxb6609089aDoor
open Go Go.RowKit
attribute [local go_sem] str_size str_get str_extract str_toList str_append str_data

set_option maxHeartbeats 20000000 in
set_option maxRecDepth 20000 in
theorem uq_34c (E : Nat) (l : List UInt8) (w : World) (t : TypeId) (x : Value) (hl : l.length + 1 ≤ 1000000000) (hE : E < l.length) (hi : Lib.indexByte l 34 = E) (g92 : (Lib.indexByte ((34 :: l).take (E + 2)) 92 != -1) = false) (g10 : (Lib.indexByte ((34 :: l).take (E + 2)) 10 != -1) = false) (hS : Syn w t x) (hU : Lib.Utf8Tabs 3 4 w) :
    Calls Tryd.prog 21 #[.string (str (34 :: l)), .bool true] w (UQPost t x w (34 :: l) (if Uq.fast 34 E l then some (str (l.take E), l.drop (E + 1)) else (Uq.uloop 34 (l.length + 1) l []).map fun p => (strOfNums p.1, p.2))) := by
  obtain ⟨i0, hin, hz0, hz1, hz2⟩ := info_parts Tryd.info5'
  have cI : ∀ w, Calls Tryd.prog 27 #[.string (str l), .int .u8 34] w fun e w' => e = .returned (.int .i64 E) ∧ w' = w := fun w => by
    have := index_calls (str l) 34 w
    rw [str_data, show ((34 : Int).toNat).toUInt8 = 34 by rfl, hi] at this
    exact this
  obtain ⟨b92, hb92⟩ : ∃ b, (Lib.indexByte ((34 :: l).take (E + 2)) 92 != -1) = b := ⟨_, rfl⟩
  obtain ⟨b10, hb10⟩ : ∃ b, (Lib.indexByte ((34 :: l).take (E + 2)) 10 != -1) = b := ⟨_, rfl⟩
  obtain ⟨vd, hvd⟩ : ∃ b, Lib.validD (l.take E) = b := ⟨_, rfl⟩
  have hfast : Uq.fast 34 E l = (!b92 && !b10 && vd) := by
    unfold Uq.fast
    rw [hb92, hb10, if_pos rfl, hvd]
  have c92 : ∀ w, Calls Tryd.prog 28 #[.string (str ((34 :: l).take (E + 2))), .int .u8 92] w fun e w' => e = .returned (.bool b92) ∧ w' = w := fun w => by
    have := contains_calls (str ((34 :: l).take (E + 2))) 92 w
    rw [str_data, show ((92 : Int).toNat).toUInt8 = 92 by rfl, hb92] at this
    exact this
  have c10 : ∀ w, Calls Tryd.prog 28 #[.string (str ((34 :: l).take (E + 2))), .int .u8 10] w fun e w' => e = .returned (.bool b10) ∧ w' = w := fun w => by
    have := contains_calls (str ((34 :: l).take (E + 2))) 10 w
    rw [str_data, show ((10 : Int).toNat).toUInt8 = 10 by rfl, hb10] at this
    exact this
  rw [show E + 2 = (E + 1) + 1 from rfl, List.take_succ_cons] at c92 c10
  have cV : Calls Tryd.prog 29 #[.string (str (l.take E))] w fun e w' => e = .returned (.bool vd) ∧ Below w.heap.size w w' := by
    have := Any.utf8_ValidString Tryd.lays196 (str (l.take E)) w (by rw [str_size, List.length_take]; omega) hU
    rw [str_data, hvd] at this
    exact this
  have q92 : b92 = false := by rw [← hb92]; exact g92
  have q10 : b10 = false := by rw [← hb10]; exact g10
  subst q92 q10
  clear g92 g10
  have HS : Hid (Syn w t x) := hS
  have HU : Hid (Lib.Utf8Tabs 3 4 w) := hU
  have hS' : w.cell? ⟨1, 0, none⟩ = some (.iface t x) := hS
  have HF := hid_of hfast
  clear hi hb92 hb10 hvd hfast hS hU
  obtain ⟨c, hc⟩ : ∃ c, c = 3 * (E + 2) / 2 := ⟨_, rfl⟩
  have hcI : 3 * ((E : Int) + 2) / 2 = (c : Int) := by omega
  have hc2 : c ≤ 140737488355328 := by omega
  clear hc
  obtain ⟨B, hB⟩ : ∃ B, B = w.heap.size := ⟨_, rfl⟩
  have HB : Hid (B = w.heap.size) := hB
  clear hB
  obtain ⟨R, hR⟩ : ∃ R, (if Uq.fast 34 E l then some (str (l.take E), l.drop (E + 1)) else (Uq.uloop 34 (l.length + 1) l []).map fun p => (strOfNums p.1, p.2)) = R := ⟨_, rfl⟩
  have HR : Hid ((if Uq.fast 34 E l then some (str (l.take E), l.drop (E + 1)) else (Uq.uloop 34 (l.length + 1) l []).map fun p => (strOfNums p.1, p.2)) = R) := hR
  rw [hR]
  clear hR
  go_enter Tryd.func21, Tryd.ntmps21
  go_wp2_with (first
    | (at_make; refine wpList_make_own _ rfl _ _ 30 rfl B 5 i0 (.int .u8 0) 1 Tryd.underlying30 hin hz0 hz1 _ _ _ c rfl rfl (by first | rfl | assumption) (by rw [hz2]; omega) (by unfold maxLen; omega) (by rw [HB.out]; first | exact Nat.le_refl _ | exact hbv.size) ?_; intro w1 hown hg)
    | (go_at_call 27; go_fit (cI _); rintro e w' ⟨rfl, hw⟩; have hw' := hw.symm; subst hw'; clear hw)
    | (go_at_call 28; go_fit (c92 _); rintro e w' ⟨rfl, hw⟩; have hw' := hw.symm; subst hw'; clear hw)
    | (go_at_call 28; go_fit (c10 _); rintro e w' ⟨rfl, hw⟩; have hw' := hw.symm; subst hw'; clear hw)
    | (go_at_call 29; go_fit cV; rintro e wv ⟨rfl, hbv⟩))
  · have hff : Uq.fast 34 E l = true := by
      rw [HF.out]
      have h3 : vd = true := by assumption
      rw [h3]; rfl
    have HFF : Hid (Uq.fast 34 E l = true) := hff
    clear hff HF
    go_quiet (fail)
    go_wp2_with fail
    go_ret3
    rw [← HR.out, HFF.out]
    exact ⟨below_drewN hbv _, by simp [List.take_take]⟩
  · have hff : Uq.fast 34 E l = false := by
      rw [HF.out]
      have h3 : vd = false := by assumption
      rw [h3]; simp
    have HFF : Hid (Uq.fast 34 E l = false) := hff
    have Hb0 : Hid (Lib.OwnBuf B 5 (.slice (some ⟨wv.heap.size, 0, none⟩) 0 c) 0 (Lib.intCells []) w w1) := buf_new HB.out hbv hown hg
    clear hff HF hown hg
    go_loopw [0, 14] (fun vs vb wr => ∃ (l' : List UInt8) (acc : List Int) (f : Nat), vs = .string (str l') ∧ l'.length < f ∧ l'.length ≤ l.length ∧ acc.length + 4 * l'.length ≤ 4 * l.length ∧ Hid (Lib.OwnBuf B 5 vb acc.length (Lib.intCells acc) w wr) ∧ Hid (Uq.uloop 34 f l' acc = Uq.uloop 34 (l.length + 1) l [])) (fun vs _ _ => szOf vs)
    case atStart => exact ⟨l, [], l.length + 1, rfl, by omega, by omega, by simp, Hb0, rfl⟩
    case round =>
      obtain ⟨l', acc, f', rfl, hf, hln, hal, hbr, hq⟩ := hrel
      obtain ⟨f, rfl⟩ : ∃ g, f' = g + 1 := ⟨f' - 1, by omega⟩
      have hbel : Below w.heap.size w wr := by have := hbr.out.2.1; rwa [HB.out] at this
      have hSr : wr.cell? ⟨1, 0, none⟩ = some (.iface t x) := HS.out.below hbel
      cases l' with
      | nil =>
        have hn : Hid (Uq.uloop 34 (l.length + 1) l [] = none) := by show _ = _; rw [← hq.out]; rfl
        clear hq
        go_wp2_with fail
        go_quiet (fail)
        go_wp2_with fail
        go_ret3
        refine ⟨below_drewN hbel _, ?_⟩
        rw [← HR.out, HFF.out, hn.out]; rfl
      | cons c s =>
        have hcl : s.length + 1 ≤ l.length := by simpa using hln
        have hal' : acc.length + 4 * (s.length + 1) ≤ 4 * l.length := by simpa using hal
        clear hln hal
        by_cases hcq : c = 34
        · subst hcq
          have hcv := buf_string hbr.out
          have hn : Hid (Uq.uloop 34 (l.length + 1) l [] = some (acc, s)) := by show _ = _; rw [← hq.out]; simp [Uq.uloop]
          clear hq
          go_wp2_with fail
          go_ret3
          refine ⟨hbel, ?_⟩
          rw [← HR.out, HFF.out, hn.out]; rfl
        · have cU := uc_calls 34 c s wr t x (.inl rfl) hcq (by omega) hSr (Utf8Tabs_below HU.out hbel)
          have hcn : ((c.toNat : Int) != 34) = true := nb_k (nat_ne hcq rfl)
          have hcm : ((c.toNat : Int) == 34) = false := ne_k (nat_ne hcq rfl)
          cases hu : Uq.uc 34 (c :: s) with
          | none =>
            rw [hu] at cU
            have hn : Hid (Uq.uloop 34 (l.length + 1) l [] = none) := by show _ = _; rw [← hq.out, Uq.uloop, if_neg hcq, hu]
            clear hq hu
            go_wp2_with (go_at_call 31; go_fit cU; rintro e w2 ⟨hb2, he⟩; obtain ⟨ra, rb, rc, rfl⟩ := he; have hS2 : w2.cell? ⟨1, 0, none⟩ = some (.iface t x) := Syn.below hSr hb2)
            all_goals
              go_quiet (fail)
              go_wp2_with fail
              go_ret3
              refine ⟨below_drewN (hbel.trans (hb2.mono hbel.size)) _, ?_⟩
              rw [← HR.out, HFF.out, hn.out]; rfl
          | some p =>
            obtain ⟨r, m, tl⟩ := p
            have hus := Uq.uc_some hu
            rw [hu] at cU
            by_cases h10 : c = 10
            · have h10' : ((c.toNat : Int) == 10) = true := by rw [h10]; rfl
              have hn : Hid (Uq.uloop 34 (l.length + 1) l [] = none) := by show _ = _; rw [← hq.out, Uq.uloop, if_neg hcq, hu]; simp [h10]
              clear hq hu h10
              go_wp2_with (go_at_call 31; go_fit cU; rintro e w2 ⟨hb2, he⟩; obtain rfl := he; have hS2 : w2.cell? ⟨1, 0, none⟩ = some (.iface t x) := Syn.below hSr hb2)
              all_goals
                go_quiet (fail)
                go_wp2_with fail
                go_ret3
                refine ⟨below_drewN (hbel.trans (hb2.mono hbel.size)) _, ?_⟩
                rw [← HR.out, HFF.out, hn.out]; rfl
            · have h10' : ((c.toNat : Int) == 10) = false := ne_k (nat_ne h10 rfl)
              have hn : Hid (Uq.uloop 34 (f + 1) (c :: s) acc = Uq.uloop 34 f tl (acc ++ Uq.put r m)) := by show _ = _; rw [Uq.uloop, if_neg hcq, hu]; simp [h10]
              have hpl := Uq.put_length r m
              clear hu h10
              by_cases hp : r < 128 ∨ m = false
              · have hput : Hid (Uq.put r m = [r % 256]) := by show _ = _; rw [Uq.put, if_pos hp]
                rcases hp with hp | hp
                · go_wp2_with (first
                    | (go_at_call 31; go_fit cU; rintro e w2 ⟨hb2, he⟩; obtain rfl := he; have hbo := buf_below hbr.out hb2)
                    | (at_builtin; refine Lib.wpList_append_byte rfl _ _ 30 rfl B 5 i0 Tryd.underlying30 hin hz0 hz1 hz2 _ _ _ rfl w _ _ (by exact hbo) rfl (by omega) ?_; intro _ _ hb))
                  refine ⟨⟨tl, acc ++ [r % 256], f, rfl, by simp at hf; omega, by omega, by simp; omega, ?_, ?_⟩, by simp only [szOf_string, str_size, List.length_cons]; omega⟩
                  · simpa [Hid, Lib.intCells] using hb
                  · show _ = _
                    rw [← hq.out, hn.out, hput.out]
                · subst hp
                  go_wp2_with (first
                    | (go_at_call 31; go_fit cU; rintro e w2 ⟨hb2, he⟩; obtain rfl := he; have hbo := buf_below hbr.out hb2)
                    | (at_builtin; refine Lib.wpList_append_byte rfl _ _ 30 rfl B 5 i0 Tryd.underlying30 hin hz0 hz1 hz2 _ _ _ rfl w _ _ (by exact hbo) rfl (by omega) ?_; intro _ _ hb))
                  all_goals
                    refine ⟨⟨tl, acc ++ [r % 256], f, rfl, by simp at hf; omega, by omega, by simp; omega, ?_, ?_⟩, by simp only [szOf_string, str_size, List.length_cons]; omega⟩
                    · simpa [Hid, Lib.intCells] using hb
                    · show _ = _
                      rw [← hq.out, hn.out, hput.out]
              · have hput : Hid (Uq.put r m = Lib.encodeRuneZ r) := by show _ = _; rw [Uq.put, if_neg hp]
                have hmt : m = true := by
                  cases m
                  · exact absurd (.inr rfl) hp
                  · rfl
                have hr128 : ¬ r < 128 := fun h => hp (.inl h)
                subst hmt
                have hrb : 0 ≤ r ∧ r ≤ 1114111 := by
                  rcases hus.2 with h | h
                  · cases h
                  · exact h
                clear hp
                have cA : ∀ w2, Lib.OwnBuf B 5 u14 acc.length (Lib.intCells acc) w w2 → Calls Tryd.prog 32 #[u14, .int .i32 r] w2 fun e w' => ∃ v', e = .returned v' ∧ Lib.OwnBuf B 5 v' (acc.length + (Lib.runeCells r).length) (Lib.intCells acc ++ Lib.runeCells r) w w' := fun w2 hb2 =>
                  (Any.utf8_AppendRune_row Tryd.lays242 Tryd.info5' B u14 acc.length _ r (by omega) (by omega) w2 hb2.1 (by omega) hb2.2.2).mono fun e w' ⟨v', h1, h2, o, h3⟩ => ⟨v', h1, (hb2.alloc o).grown h2 h3⟩
                go_wp2_with (first
                  | (go_at_call 31; go_fit cU; rintro e w2 ⟨hb2, he⟩; obtain rfl := he; have hbo := buf_below hbr.out hb2)
                  | (go_at_call 32; go_fit (cA _ hbo); rintro e w3 ⟨v3, rfl, hb⟩))
                rw [hput.out] at hpl
                refine ⟨⟨tl, acc ++ Lib.encodeRuneZ r, f, rfl, by simp at hf; omega, by omega, by simp; omega, ?_, ?_⟩, by simp only [szOf_string, str_size, List.length_cons]; omega⟩
                · simpa [Hid, Lib.intCells, Lib.runeCells] using hb
                · show _ = _
                  rw [← hq.out, hn.out, hput.out]

end Go.Proofs.Qxb6609089aDoor
