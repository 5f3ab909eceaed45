import Derived.Test.Qxb6609089aDoorW20
set_option linter.unusedSimpArgs false
set_option linter.unusedVariables false
namespace Go.Proofs.Qxb6609089aDoor
open Go Go.RowKit
attribute [local go_sem] str_size str_get str_extract str_toList str_append str_data

set_option maxHeartbeats 20000000 in
set_option maxRecDepth 20000 in
theorem uq_39c (E : Nat) (l : List UInt8) (w : World) (t : TypeId) (x : Value) (hl : l.length + 1 ≤ 1000000000) (hE : E < l.length) (hi : Lib.indexByte l 39 = E) (g92 : (Lib.indexByte ((39 :: l).take (E + 2)) 92 != -1) = false) (g10 : (Lib.indexByte ((39 :: l).take (E + 2)) 10 != -1) = false) (hS : Syn w t x) (hU : Lib.Utf8Tabs 3 4 w) :
    Calls Tryd.prog 21 #[.string (str (39 :: l)), .bool true] w (UQPost t x w (39 :: l) (if Uq.fast 39 E l then some (str (l.take E), l.drop (E + 1)) else (Uq.uloop 39 (l.length + 1) l []).map fun p => (strOfNums p.1, p.2))) := by
  obtain ⟨i0, hin, hz0, hz1, hz2⟩ := info_parts Tryd.info5'
  have cI : ∀ w, Calls Tryd.prog 27 #[.string (str l), .int .u8 39] w fun e w' => e = .returned (.int .i64 E) ∧ w' = w := fun w => by
    have := index_calls (str l) 39 w
    rw [str_data, show ((39 : Int).toNat).toUInt8 = 39 by rfl, hi] at this
    exact this
  obtain ⟨b92, hb92⟩ : ∃ b, (Lib.indexByte ((39 :: l).take (E + 2)) 92 != -1) = b := ⟨_, rfl⟩
  obtain ⟨b10, hb10⟩ : ∃ b, (Lib.indexByte ((39 :: l).take (E + 2)) 10 != -1) = b := ⟨_, rfl⟩
  obtain ⟨D, hD⟩ : ∃ D, (Lib.decodeGoB (str (l.take E))).1 = D := ⟨_, rfl⟩
  obtain ⟨K, hK⟩ : ∃ K, (Lib.decodeGoB (str (l.take E))).2 = K := ⟨_, rfl⟩
  have hKE : K ≤ E := by
    rw [← hK, Lib.decodeGoB]
    split
    · simp
    · rename_i h0
      have := Lib.width_le (str (l.take E)) (by omega)
      rw [str_size, List.length_take] at this
      omega
  have hfast : Uq.fast 39 E l = (!b92 && !b10 && (decide (K = E) && (decide (D ≠ 65533) || decide (K ≠ 1)))) := by
    unfold Uq.fast
    rw [hb92, hb10, if_neg (by decide), hD, hK]
  have c92 : ∀ w, Calls Tryd.prog 28 #[.string (str ((39 :: l).take (E + 2))), .int .u8 92] w fun e w' => e = .returned (.bool b92) ∧ w' = w := fun w => by
    have := contains_calls (str ((39 :: l).take (E + 2))) 92 w
    rw [str_data, show ((92 : Int).toNat).toUInt8 = 92 by rfl, hb92] at this
    exact this
  have c10 : ∀ w, Calls Tryd.prog 28 #[.string (str ((39 :: l).take (E + 2))), .int .u8 10] w fun e w' => e = .returned (.bool b10) ∧ w' = w := fun w => by
    have := contains_calls (str ((39 :: l).take (E + 2))) 10 w
    rw [str_data, show ((10 : Int).toNat).toUInt8 = 10 by rfl, hb10] at this
    exact this
  rw [show E + 2 = (E + 1) + 1 from rfl, List.take_succ_cons] at c92 c10
  have cV : Calls Tryd.prog 30 #[.string (str (l.take E))] w fun e w' => e = .returned (.tuple #[.int .i32 D, .int .i64 K]) ∧ Below w.heap.size w w' := by
    have := Any.utf8_DecodeRuneInString Tryd.lays197 (str (l.take E)) w hU
    rw [show Lib.decodeGo (str (l.take E)) = Lib.decodeGoB (str (l.take E)) from rfl, hD, hK] at this
    exact this
  have q92 : b92 = false := by rw [← hb92]; exact g92
  have q10 : b10 = false := by rw [← hb10]; exact g10
  subst q92 q10
  clear g92 g10
  have HS : Hid (Syn w t x) := hS
  have HU : Hid (Lib.Utf8Tabs 3 4 w) := hU
  have hS' : w.cell? ⟨1, 0, none⟩ = some (.iface t x) := hS
  have HF := hid_of hfast
  clear hi hb92 hb10 hD hK hfast hS hU
  obtain ⟨c, hc⟩ : ∃ c, c = 3 * (E + 2) / 2 := ⟨_, rfl⟩
  have hcI : 3 * ((E : Int) + 2) / 2 = (c : Int) := by omega
  have hc2 : c ≤ 140737488355328 := by omega
  clear hc
  obtain ⟨B, hB⟩ : ∃ B, B = w.heap.size := ⟨_, rfl⟩
  have HB : Hid (B = w.heap.size) := hB
  clear hB
  obtain ⟨R, hR⟩ : ∃ R, (if Uq.fast 39 E l then some (str (l.take E), l.drop (E + 1)) else (Uq.uloop 39 (l.length + 1) l []).map fun p => (strOfNums p.1, p.2)) = R := ⟨_, rfl⟩
  have HR : Hid ((if Uq.fast 39 E l then some (str (l.take E), l.drop (E + 1)) else (Uq.uloop 39 (l.length + 1) l []).map fun p => (strOfNums p.1, p.2)) = R) := hR
  rw [hR]
  clear hR
  go_enter Tryd.func21, Tryd.ntmps21
  go_wp2_with (first
    | (at_make; refine wpList_make_own _ rfl _ _ 30 rfl B 5 i0 (.int .u8 0) 1 Tryd.underlying30 hin hz0 hz1 _ _ _ c rfl rfl (by first | rfl | assumption) (by rw [hz2]; omega) (by unfold maxLen; omega) (by rw [HB.out]; first | exact Nat.le_refl _ | exact hbv.size) ?_; intro w1 hown hg)
    | (go_at_call 27; go_fit (cI _); rintro e w' ⟨rfl, hw⟩; have hw' := hw.symm; subst hw'; clear hw)
    | (go_at_call 28; go_fit (c92 _); rintro e w' ⟨rfl, hw⟩; have hw' := hw.symm; subst hw'; clear hw)
    | (go_at_call 28; go_fit (c10 _); rintro e w' ⟨rfl, hw⟩; have hw' := hw.symm; subst hw'; clear hw)
    | (go_at_call 30; go_fit cV; rintro e wv ⟨rfl, hbv⟩))
  · have h1 : (1 : Int) + (K : Int) + 1 = (E : Int) + 2 := by assumption
    have hkk : K = E := by omega
    have hff : Uq.fast 39 E l = true := by
      rw [HF.out]
      have h2 : ¬ (D : Int) = 65533 := by assumption
      have h3 : D ≠ 65533 := by omega
      simp [hkk, h3]
    have HFF : Hid (Uq.fast 39 E l = true) := hff
    clear hff HF hkk
    go_quiet (fail)
    go_wp2_with fail
    go_ret3
    rw [← HR.out, HFF.out]
    exact ⟨below_drewN hbv _, by simp [List.take_take]⟩
  · have h1 : (1 : Int) + (K : Int) + 1 = (E : Int) + 2 := by assumption
    have hkk : K = E := by omega
    have hff : Uq.fast 39 E l = true := by
      rw [HF.out]
      have h2 : ((K : Int) != 1) = true := by assumption
      have h3 : K ≠ 1 := by
        intro h
        rw [h] at h2
        cases h2
      rw [hkk] at h3
      simp [hkk, h3]
    have HFF : Hid (Uq.fast 39 E l = true) := hff
    clear hff HF hkk
    go_quiet (fail)
    go_wp2_with fail
    go_ret3
    rw [← HR.out, HFF.out]
    exact ⟨below_drewN hbv _, by simp [List.take_take]⟩
  · have hff : Uq.fast 39 E l = false := by
      rw [HF.out]
      have h2 : ((K : Int) != 1) = false := by assumption
      have h3 : K = 1 := by
        have : (K : Int) = 1 := by simpa using h2
        omega
      have h4 : (D : Int) = 65533 := by assumption
      have h5 : D = 65533 := by omega
      simp [h3, h5]
    have HFF : Hid (Uq.fast 39 E l = false) := hff
    have Hb0 : Hid (Lib.OwnBuf B 5 (Value.slice (some ⟨wv.heap.size, 0, none⟩) 0 c) 0 (Lib.intCells []) w w1) := buf_new HB.out hbv hown hg
    clear hff HF hown hg
    have hl0 : 0 < l.length := by omega
    have hbel : Below w.heap.size w w1 := by have := Hb0.out.2.1; rwa [HB.out] at this
    have hSr : w1.cell? ⟨1, 0, none⟩ = some (.iface t x) := HS.out.below hbel
    refine wp_loop_rounds 1 ?_
    rw [rounds_succ]
    by_cases hcq : l[0] = 39
    · have hcn : ((l[0].toNat : Int) != 39) = false := by rw [hcq]; rfl
      have hcm : ((l[0].toNat : Int) == 39) = true := by rw [hcq]; rfl
      have hn : Hid (Uq.uloop 39 (l.length + 1) l [] = some ([], l.drop 1)) := uloop39_yes hl0 hcq
      have hcv := buf_string (l := []) Hb0.out
      clear hcq
      go_wp2_with fail
      go_ret3
      refine ⟨hbel, ?_⟩
      rw [← HR.out, HFF.out, hn.out]
      simp
    · have cU := uc39_calls l w1 t x hl0 hcq (by omega) hSr (Utf8Tabs_below HU.out hbel)
      have hcn : ((l[0].toNat : Int) != 39) = true := nb_k (nat_ne hcq rfl)
      have hcm : ((l[0].toNat : Int) == 39) = false := ne_k (nat_ne hcq rfl)
      cases hu : Uq.uc 39 l with
      | none =>
        rw [hu] at cU
        have hn : Hid (Uq.uloop 39 (l.length + 1) l [] = none) := uloop39_none hl0 hcq hu
        clear hu hcq
        go_wp2_with (go_at_call 31; go_fit cU; rintro e w2 ⟨hb2, he⟩; obtain ⟨ra, rb, rc, rfl⟩ := he; have hS2 : w2.cell? ⟨1, 0, none⟩ = some (.iface t x) := Syn.below hSr hb2)
        all_goals
          go_quiet (fail)
          go_wp2_with fail
          go_ret3
          refine ⟨below_drewN (hbel.trans (hb2.mono hbel.size)) _, ?_⟩
          rw [← HR.out, HFF.out, hn.out]; rfl
      | some p =>
        obtain ⟨r, m, tl⟩ := p
        have hus := uc39_some hl0 hu
        rw [hu] at cU
        by_cases h10 : l[0] = 10
        · have h10' : ((l[0].toNat : Int) == 10) = true := by rw [h10]; rfl
          have hn : Hid (Uq.uloop 39 (l.length + 1) l [] = none) := uloop39_lf hl0 hcq hu h10
          clear hu h10 hcq
          go_wp2_with (go_at_call 31; go_fit cU; rintro e w2 ⟨hb2, he⟩; obtain rfl := he; have hS2 : w2.cell? ⟨1, 0, none⟩ = some (.iface t x) := Syn.below hSr hb2)
          all_goals
            go_quiet (fail)
            go_wp2_with fail
            go_ret3
            refine ⟨below_drewN (hbel.trans (hb2.mono hbel.size)) _, ?_⟩
            rw [← HR.out, HFF.out, hn.out]; rfl
        · have h10' : ((l[0].toNat : Int) == 10) = false := ne_k (nat_ne h10 rfl)
          have hn0 := uloop39_some hl0 hcq hu h10
          clear hu h10 hcq
          cases tl with
          | nil =>
            have hn : Hid (Uq.uloop 39 (l.length + 1) l [] = none) := hn0
            clear hn0
            by_cases hp : r < 128 ∨ m = false
            · have hput : Hid (Uq.put r m = [r % 256]) := by show _ = _; rw [Uq.put, if_pos hp]
              rcases hp with hp | hp
              · have hr128 : decide (r < 128) = true := decide_eq_true hp
                go_wp2_with (first | (go_at_call 31; go_fit cU; rintro e w2 ⟨hb2, he⟩; obtain rfl := he; have hbo := buf_below Hb0.out hb2; have hS2 : w2.cell? ⟨1, 0, none⟩ = some (.iface t x) := Syn.below hSr hb2) | (at_builtin; refine Lib.wpList_append_byte rfl _ _ 30 rfl B 5 i0 Tryd.underlying30 hin hz0 hz1 hz2 _ _ _ rfl w _ _ (by exact hbo) rfl (by omega) ?_; intro v3 w3 hb; have hcv := buf_string (l := [r % 256]) (by simpa [Lib.intCells] using hb); have hS3 : w3.cell? ⟨1, 0, none⟩ = some (.iface t x) := Syn.below HS.out (by have := hb.2.1; rwa [HB.out] at this)))
                all_goals
                  go_quiet (fail)
                  go_wp2_with fail
                  go_ret3
                  refine ⟨below_drewN (by have := hb.2.1; rwa [HB.out] at this) _, ?_⟩
                  rw [← HR.out, HFF.out, hn.out]; rfl
              · subst hp
                go_wp2_with (first | (go_at_call 31; go_fit cU; rintro e w2 ⟨hb2, he⟩; obtain rfl := he; have hbo := buf_below Hb0.out hb2; have hS2 : w2.cell? ⟨1, 0, none⟩ = some (.iface t x) := Syn.below hSr hb2) | (at_builtin; refine Lib.wpList_append_byte rfl _ _ 30 rfl B 5 i0 Tryd.underlying30 hin hz0 hz1 hz2 _ _ _ rfl w _ _ (by exact hbo) rfl (by omega) ?_; intro v3 w3 hb; have hcv := buf_string (l := [r % 256]) (by simpa [Lib.intCells] using hb); have hS3 : w3.cell? ⟨1, 0, none⟩ = some (.iface t x) := Syn.below HS.out (by have := hb.2.1; rwa [HB.out] at this)))
                all_goals
                  go_quiet (fail)
                  go_wp2_with fail
                  go_ret3
                  refine ⟨below_drewN (by have := hb.2.1; rwa [HB.out] at this) _, ?_⟩
                  rw [← HR.out, HFF.out, hn.out]; rfl
            · have hput : Hid (Uq.put r m = Lib.encodeRuneZ r) := by show _ = _; rw [Uq.put, if_neg hp]
              have hmt : m = true := by
                cases m
                · exact absurd (.inr rfl) hp
                · rfl
              have hr128 : decide (r < 128) = false := decide_eq_false fun h => hp (.inl h)
              subst hmt
              have hrb : 0 ≤ r ∧ r ≤ 1114111 := by
                rcases hus.2 with h | h
                · cases h
                · exact h
              clear hp
              have cA : ∀ w2, Lib.OwnBuf B 5 (Value.slice (some ⟨wv.heap.size, 0, none⟩) 0 c) 0 (Lib.intCells []) w w2 → Calls Tryd.prog 32 #[Value.slice (some ⟨wv.heap.size, 0, none⟩) 0 c, .int .i32 r] w2 fun e w' => ∃ v', e = .returned v' ∧ Lib.OwnBuf B 5 v' (0 + (Lib.runeCells r).length) (Lib.intCells [] ++ Lib.runeCells r) w w' := fun w2 hb2 =>
                (Any.utf8_AppendRune_row Tryd.lays242 Tryd.info5' B (Value.slice (some ⟨wv.heap.size, 0, none⟩) 0 c) 0 _ r (by omega) (by omega) w2 hb2.1 (by omega) hb2.2.2).mono fun e w' ⟨v', h1, h2, o, h3⟩ => ⟨v', h1, (hb2.alloc o).grown h2 h3⟩
              go_wp2_with (first | (go_at_call 31; go_fit cU; rintro e w2 ⟨hb2, he⟩; obtain rfl := he; have hbo := buf_below Hb0.out hb2; have hS2 : w2.cell? ⟨1, 0, none⟩ = some (.iface t x) := Syn.below hSr hb2) | (go_at_call 32; go_fit (cA _ hbo); rintro e w3 ⟨v3, rfl, hb⟩; have hcv := buf_string (l := Lib.encodeRuneZ r) (by simpa [Lib.intCells, Lib.runeCells] using hb); have hS3 : w3.cell? ⟨1, 0, none⟩ = some (.iface t x) := Syn.below HS.out (by have := hb.2.1; rwa [HB.out] at this)))
              all_goals
                go_quiet (fail)
                go_wp2_with fail
                go_ret3
                refine ⟨below_drewN (by have := hb.2.1; rwa [HB.out] at this) _, ?_⟩
                rw [← HR.out, HFF.out, hn.out]; rfl
          | cons c' s' =>
            have hsl : s'.length + 1 < l.length := by simpa using hus.1
            by_cases hc' : c' = 39
            · have hn : Hid (Uq.uloop 39 (l.length + 1) l [] = some (Uq.put r m, s')) := by show _ = _; rw [hn0]; simp [hc']
              have hd1 : ((c'.toNat : Int) == 39) = true := by rw [hc']; rfl
              clear hn0 hc'
              by_cases hp : r < 128 ∨ m = false
              · have hput : Hid (Uq.put r m = [r % 256]) := by show _ = _; rw [Uq.put, if_pos hp]
                rcases hp with hp | hp
                · have hr128 : decide (r < 128) = true := decide_eq_true hp
                  go_wp2_with (first | (go_at_call 31; go_fit cU; rintro e w2 ⟨hb2, he⟩; obtain rfl := he; have hbo := buf_below Hb0.out hb2; have hS2 : w2.cell? ⟨1, 0, none⟩ = some (.iface t x) := Syn.below hSr hb2) | (at_builtin; refine Lib.wpList_append_byte rfl _ _ 30 rfl B 5 i0 Tryd.underlying30 hin hz0 hz1 hz2 _ _ _ rfl w _ _ (by exact hbo) rfl (by omega) ?_; intro v3 w3 hb; have hcv := buf_string (l := [r % 256]) (by simpa [Lib.intCells] using hb); have hS3 : w3.cell? ⟨1, 0, none⟩ = some (.iface t x) := Syn.below HS.out (by have := hb.2.1; rwa [HB.out] at this)))
                  all_goals
                    go_ret3
                    refine ⟨(by have := hb.2.1; rwa [HB.out] at this), ?_⟩
                    rw [← HR.out, HFF.out, hn.out, hput.out]; rfl
                · subst hp
                  go_wp2_with (first | (go_at_call 31; go_fit cU; rintro e w2 ⟨hb2, he⟩; obtain rfl := he; have hbo := buf_below Hb0.out hb2; have hS2 : w2.cell? ⟨1, 0, none⟩ = some (.iface t x) := Syn.below hSr hb2) | (at_builtin; refine Lib.wpList_append_byte rfl _ _ 30 rfl B 5 i0 Tryd.underlying30 hin hz0 hz1 hz2 _ _ _ rfl w _ _ (by exact hbo) rfl (by omega) ?_; intro v3 w3 hb; have hcv := buf_string (l := [r % 256]) (by simpa [Lib.intCells] using hb); have hS3 : w3.cell? ⟨1, 0, none⟩ = some (.iface t x) := Syn.below HS.out (by have := hb.2.1; rwa [HB.out] at this)))
                  all_goals
                    go_ret3
                    refine ⟨(by have := hb.2.1; rwa [HB.out] at this), ?_⟩
                    rw [← HR.out, HFF.out, hn.out, hput.out]; rfl
              · have hput : Hid (Uq.put r m = Lib.encodeRuneZ r) := by show _ = _; rw [Uq.put, if_neg hp]
                have hmt : m = true := by
                  cases m
                  · exact absurd (.inr rfl) hp
                  · rfl
                have hr128 : decide (r < 128) = false := decide_eq_false fun h => hp (.inl h)
                subst hmt
                have hrb : 0 ≤ r ∧ r ≤ 1114111 := by
                  rcases hus.2 with h | h
                  · cases h
                  · exact h
                clear hp
                have cA : ∀ w2, Lib.OwnBuf B 5 (Value.slice (some ⟨wv.heap.size, 0, none⟩) 0 c) 0 (Lib.intCells []) w w2 → Calls Tryd.prog 32 #[Value.slice (some ⟨wv.heap.size, 0, none⟩) 0 c, .int .i32 r] w2 fun e w' => ∃ v', e = .returned v' ∧ Lib.OwnBuf B 5 v' (0 + (Lib.runeCells r).length) (Lib.intCells [] ++ Lib.runeCells r) w w' := fun w2 hb2 =>
                  (Any.utf8_AppendRune_row Tryd.lays242 Tryd.info5' B (Value.slice (some ⟨wv.heap.size, 0, none⟩) 0 c) 0 _ r (by omega) (by omega) w2 hb2.1 (by omega) hb2.2.2).mono fun e w' ⟨v', h1, h2, o, h3⟩ => ⟨v', h1, (hb2.alloc o).grown h2 h3⟩
                go_wp2_with (first | (go_at_call 31; go_fit cU; rintro e w2 ⟨hb2, he⟩; obtain rfl := he; have hbo := buf_below Hb0.out hb2; have hS2 : w2.cell? ⟨1, 0, none⟩ = some (.iface t x) := Syn.below hSr hb2) | (go_at_call 32; go_fit (cA _ hbo); rintro e w3 ⟨v3, rfl, hb⟩; have hcv := buf_string (l := Lib.encodeRuneZ r) (by simpa [Lib.intCells, Lib.runeCells] using hb); have hS3 : w3.cell? ⟨1, 0, none⟩ = some (.iface t x) := Syn.below HS.out (by have := hb.2.1; rwa [HB.out] at this)))
                all_goals
                  go_ret3
                  refine ⟨(by have := hb.2.1; rwa [HB.out] at this), ?_⟩
                  rw [← HR.out, HFF.out, hn.out, hput.out]; rfl
            · have hn : Hid (Uq.uloop 39 (l.length + 1) l [] = none) := by show _ = _; rw [hn0]; simp [hc']
              have hd1 : ((c'.toNat : Int) == 39) = false := ne_k (nat_ne hc' rfl)
              clear hn0 hc'
              by_cases hp : r < 128 ∨ m = false
              · have hput : Hid (Uq.put r m = [r % 256]) := by show _ = _; rw [Uq.put, if_pos hp]
                rcases hp with hp | hp
                · have hr128 : decide (r < 128) = true := decide_eq_true hp
                  go_wp2_with (first | (go_at_call 31; go_fit cU; rintro e w2 ⟨hb2, he⟩; obtain rfl := he; have hbo := buf_below Hb0.out hb2; have hS2 : w2.cell? ⟨1, 0, none⟩ = some (.iface t x) := Syn.below hSr hb2) | (at_builtin; refine Lib.wpList_append_byte rfl _ _ 30 rfl B 5 i0 Tryd.underlying30 hin hz0 hz1 hz2 _ _ _ rfl w _ _ (by exact hbo) rfl (by omega) ?_; intro v3 w3 hb; have hcv := buf_string (l := [r % 256]) (by simpa [Lib.intCells] using hb); have hS3 : w3.cell? ⟨1, 0, none⟩ = some (.iface t x) := Syn.below HS.out (by have := hb.2.1; rwa [HB.out] at this)))
                  all_goals
                    go_quiet (fail)
                    go_wp2_with fail
                    go_ret3
                    refine ⟨below_drewN (by have := hb.2.1; rwa [HB.out] at this) _, ?_⟩
                    rw [← HR.out, HFF.out, hn.out]; rfl
                · subst hp
                  go_wp2_with (first | (go_at_call 31; go_fit cU; rintro e w2 ⟨hb2, he⟩; obtain rfl := he; have hbo := buf_below Hb0.out hb2; have hS2 : w2.cell? ⟨1, 0, none⟩ = some (.iface t x) := Syn.below hSr hb2) | (at_builtin; refine Lib.wpList_append_byte rfl _ _ 30 rfl B 5 i0 Tryd.underlying30 hin hz0 hz1 hz2 _ _ _ rfl w _ _ (by exact hbo) rfl (by omega) ?_; intro v3 w3 hb; have hcv := buf_string (l := [r % 256]) (by simpa [Lib.intCells] using hb); have hS3 : w3.cell? ⟨1, 0, none⟩ = some (.iface t x) := Syn.below HS.out (by have := hb.2.1; rwa [HB.out] at this)))
                  all_goals
                    go_quiet (fail)
                    go_wp2_with fail
                    go_ret3
                    refine ⟨below_drewN (by have := hb.2.1; rwa [HB.out] at this) _, ?_⟩
                    rw [← HR.out, HFF.out, hn.out]; rfl
              · have hput : Hid (Uq.put r m = Lib.encodeRuneZ r) := by show _ = _; rw [Uq.put, if_neg hp]
                have hmt : m = true := by
                  cases m
                  · exact absurd (.inr rfl) hp
                  · rfl
                have hr128 : decide (r < 128) = false := decide_eq_false fun h => hp (.inl h)
                subst hmt
                have hrb : 0 ≤ r ∧ r ≤ 1114111 := by
                  rcases hus.2 with h | h
                  · cases h
                  · exact h
                clear hp
                have cA : ∀ w2, Lib.OwnBuf B 5 (Value.slice (some ⟨wv.heap.size, 0, none⟩) 0 c) 0 (Lib.intCells []) w w2 → Calls Tryd.prog 32 #[Value.slice (some ⟨wv.heap.size, 0, none⟩) 0 c, .int .i32 r] w2 fun e w' => ∃ v', e = .returned v' ∧ Lib.OwnBuf B 5 v' (0 + (Lib.runeCells r).length) (Lib.intCells [] ++ Lib.runeCells r) w w' := fun w2 hb2 =>
                  (Any.utf8_AppendRune_row Tryd.lays242 Tryd.info5' B (Value.slice (some ⟨wv.heap.size, 0, none⟩) 0 c) 0 _ r (by omega) (by omega) w2 hb2.1 (by omega) hb2.2.2).mono fun e w' ⟨v', h1, h2, o, h3⟩ => ⟨v', h1, (hb2.alloc o).grown h2 h3⟩
                go_wp2_with (first | (go_at_call 31; go_fit cU; rintro e w2 ⟨hb2, he⟩; obtain rfl := he; have hbo := buf_below Hb0.out hb2; have hS2 : w2.cell? ⟨1, 0, none⟩ = some (.iface t x) := Syn.below hSr hb2) | (go_at_call 32; go_fit (cA _ hbo); rintro e w3 ⟨v3, rfl, hb⟩; have hcv := buf_string (l := Lib.encodeRuneZ r) (by simpa [Lib.intCells, Lib.runeCells] using hb); have hS3 : w3.cell? ⟨1, 0, none⟩ = some (.iface t x) := Syn.below HS.out (by have := hb.2.1; rwa [HB.out] at this)))
                all_goals
                  go_quiet (fail)
                  go_wp2_with fail
                  go_ret3
                  refine ⟨below_drewN (by have := hb.2.1; rwa [HB.out] at this) _, ?_⟩
                  rw [← HR.out, HFF.out, hn.out]; rfl
  · have hff : Uq.fast 39 E l = false := by
      rw [HF.out]
      have h2 : ¬ (1 : Int) + (K : Int) + 1 = (E : Int) + 2 := by assumption
      have h3 : K ≠ E := by omega
      simp [h3]
    have HFF : Hid (Uq.fast 39 E l = false) := hff
    have Hb0 : Hid (Lib.OwnBuf B 5 (Value.slice (some ⟨wv.heap.size, 0, none⟩) 0 c) 0 (Lib.intCells []) w w1) := buf_new HB.out hbv hown hg
    clear hff HF hown hg
    have hl0 : 0 < l.length := by omega
    have hbel : Below w.heap.size w w1 := by have := Hb0.out.2.1; rwa [HB.out] at this
    have hSr : w1.cell? ⟨1, 0, none⟩ = some (.iface t x) := HS.out.below hbel
    refine wp_loop_rounds 1 ?_
    rw [rounds_succ]
    by_cases hcq : l[0] = 39
    · have hcn : ((l[0].toNat : Int) != 39) = false := by rw [hcq]; rfl
      have hcm : ((l[0].toNat : Int) == 39) = true := by rw [hcq]; rfl
      have hn : Hid (Uq.uloop 39 (l.length + 1) l [] = some ([], l.drop 1)) := uloop39_yes hl0 hcq
      have hcv := buf_string (l := []) Hb0.out
      clear hcq
      go_wp2_with fail
      go_ret3
      refine ⟨hbel, ?_⟩
      rw [← HR.out, HFF.out, hn.out]
      simp
    · have cU := uc39_calls l w1 t x hl0 hcq (by omega) hSr (Utf8Tabs_below HU.out hbel)
      have hcn : ((l[0].toNat : Int) != 39) = true := nb_k (nat_ne hcq rfl)
      have hcm : ((l[0].toNat : Int) == 39) = false := ne_k (nat_ne hcq rfl)
      cases hu : Uq.uc 39 l with
      | none =>
        rw [hu] at cU
        have hn : Hid (Uq.uloop 39 (l.length + 1) l [] = none) := uloop39_none hl0 hcq hu
        clear hu hcq
        go_wp2_with (go_at_call 31; go_fit cU; rintro e w2 ⟨hb2, he⟩; obtain ⟨ra, rb, rc, rfl⟩ := he; have hS2 : w2.cell? ⟨1, 0, none⟩ = some (.iface t x) := Syn.below hSr hb2)
        all_goals
          go_quiet (fail)
          go_wp2_with fail
          go_ret3
          refine ⟨below_drewN (hbel.trans (hb2.mono hbel.size)) _, ?_⟩
          rw [← HR.out, HFF.out, hn.out]; rfl
      | some p =>
        obtain ⟨r, m, tl⟩ := p
        have hus := uc39_some hl0 hu
        rw [hu] at cU
        by_cases h10 : l[0] = 10
        · have h10' : ((l[0].toNat : Int) == 10) = true := by rw [h10]; rfl
          have hn : Hid (Uq.uloop 39 (l.length + 1) l [] = none) := uloop39_lf hl0 hcq hu h10
          clear hu h10 hcq
          go_wp2_with (go_at_call 31; go_fit cU; rintro e w2 ⟨hb2, he⟩; obtain rfl := he; have hS2 : w2.cell? ⟨1, 0, none⟩ = some (.iface t x) := Syn.below hSr hb2)
          all_goals
            go_quiet (fail)
            go_wp2_with fail
            go_ret3
            refine ⟨below_drewN (hbel.trans (hb2.mono hbel.size)) _, ?_⟩
            rw [← HR.out, HFF.out, hn.out]; rfl
        · have h10' : ((l[0].toNat : Int) == 10) = false := ne_k (nat_ne h10 rfl)
          have hn0 := uloop39_some hl0 hcq hu h10
          clear hu h10 hcq
          cases tl with
          | nil =>
            have hn : Hid (Uq.uloop 39 (l.length + 1) l [] = none) := hn0
            clear hn0
            by_cases hp : r < 128 ∨ m = false
            · have hput : Hid (Uq.put r m = [r % 256]) := by show _ = _; rw [Uq.put, if_pos hp]
              rcases hp with hp | hp
              · have hr128 : decide (r < 128) = true := decide_eq_true hp
                go_wp2_with (first | (go_at_call 31; go_fit cU; rintro e w2 ⟨hb2, he⟩; obtain rfl := he; have hbo := buf_below Hb0.out hb2; have hS2 : w2.cell? ⟨1, 0, none⟩ = some (.iface t x) := Syn.below hSr hb2) | (at_builtin; refine Lib.wpList_append_byte rfl _ _ 30 rfl B 5 i0 Tryd.underlying30 hin hz0 hz1 hz2 _ _ _ rfl w _ _ (by exact hbo) rfl (by omega) ?_; intro v3 w3 hb; have hcv := buf_string (l := [r % 256]) (by simpa [Lib.intCells] using hb); have hS3 : w3.cell? ⟨1, 0, none⟩ = some (.iface t x) := Syn.below HS.out (by have := hb.2.1; rwa [HB.out] at this)))
                all_goals
                  go_quiet (fail)
                  go_wp2_with fail
                  go_ret3
                  refine ⟨below_drewN (by have := hb.2.1; rwa [HB.out] at this) _, ?_⟩
                  rw [← HR.out, HFF.out, hn.out]; rfl
              · subst hp
                go_wp2_with (first | (go_at_call 31; go_fit cU; rintro e w2 ⟨hb2, he⟩; obtain rfl := he; have hbo := buf_below Hb0.out hb2; have hS2 : w2.cell? ⟨1, 0, none⟩ = some (.iface t x) := Syn.below hSr hb2) | (at_builtin; refine Lib.wpList_append_byte rfl _ _ 30 rfl B 5 i0 Tryd.underlying30 hin hz0 hz1 hz2 _ _ _ rfl w _ _ (by exact hbo) rfl (by omega) ?_; intro v3 w3 hb; have hcv := buf_string (l := [r % 256]) (by simpa [Lib.intCells] using hb); have hS3 : w3.cell? ⟨1, 0, none⟩ = some (.iface t x) := Syn.below HS.out (by have := hb.2.1; rwa [HB.out] at this)))
                all_goals
                  go_quiet (fail)
                  go_wp2_with fail
                  go_ret3
                  refine ⟨below_drewN (by have := hb.2.1; rwa [HB.out] at this) _, ?_⟩
                  rw [← HR.out, HFF.out, hn.out]; rfl
            · have hput : Hid (Uq.put r m = Lib.encodeRuneZ r) := by show _ = _; rw [Uq.put, if_neg hp]
              have hmt : m = true := by
                cases m
                · exact absurd (.inr rfl) hp
                · rfl
              have hr128 : decide (r < 128) = false := decide_eq_false fun h => hp (.inl h)
              subst hmt
              have hrb : 0 ≤ r ∧ r ≤ 1114111 := by
                rcases hus.2 with h | h
                · cases h
                · exact h
              clear hp
              have cA : ∀ w2, Lib.OwnBuf B 5 (Value.slice (some ⟨wv.heap.size, 0, none⟩) 0 c) 0 (Lib.intCells []) w w2 → Calls Tryd.prog 32 #[Value.slice (some ⟨wv.heap.size, 0, none⟩) 0 c, .int .i32 r] w2 fun e w' => ∃ v', e = .returned v' ∧ Lib.OwnBuf B 5 v' (0 + (Lib.runeCells r).length) (Lib.intCells [] ++ Lib.runeCells r) w w' := fun w2 hb2 =>
                (Any.utf8_AppendRune_row Tryd.lays242 Tryd.info5' B (Value.slice (some ⟨wv.heap.size, 0, none⟩) 0 c) 0 _ r (by omega) (by omega) w2 hb2.1 (by omega) hb2.2.2).mono fun e w' ⟨v', h1, h2, o, h3⟩ => ⟨v', h1, (hb2.alloc o).grown h2 h3⟩
              go_wp2_with (first | (go_at_call 31; go_fit cU; rintro e w2 ⟨hb2, he⟩; obtain rfl := he; have hbo := buf_below Hb0.out hb2; have hS2 : w2.cell? ⟨1, 0, none⟩ = some (.iface t x) := Syn.below hSr hb2) | (go_at_call 32; go_fit (cA _ hbo); rintro e w3 ⟨v3, rfl, hb⟩; have hcv := buf_string (l := Lib.encodeRuneZ r) (by simpa [Lib.intCells, Lib.runeCells] using hb); have hS3 : w3.cell? ⟨1, 0, none⟩ = some (.iface t x) := Syn.below HS.out (by have := hb.2.1; rwa [HB.out] at this)))
              all_goals
                go_quiet (fail)
                go_wp2_with fail
                go_ret3
                refine ⟨below_drewN (by have := hb.2.1; rwa [HB.out] at this) _, ?_⟩
                rw [← HR.out, HFF.out, hn.out]; rfl
          | cons c' s' =>
            have hsl : s'.length + 1 < l.length := by simpa using hus.1
            by_cases hc' : c' = 39
            · have hn : Hid (Uq.uloop 39 (l.length + 1) l [] = some (Uq.put r m, s')) := by show _ = _; rw [hn0]; simp [hc']
              have hd1 : ((c'.toNat : Int) == 39) = true := by rw [hc']; rfl
              clear hn0 hc'
              by_cases hp : r < 128 ∨ m = false
              · have hput : Hid (Uq.put r m = [r % 256]) := by show _ = _; rw [Uq.put, if_pos hp]
                rcases hp with hp | hp
                · have hr128 : decide (r < 128) = true := decide_eq_true hp
                  go_wp2_with (first | (go_at_call 31; go_fit cU; rintro e w2 ⟨hb2, he⟩; obtain rfl := he; have hbo := buf_below Hb0.out hb2; have hS2 : w2.cell? ⟨1, 0, none⟩ = some (.iface t x) := Syn.below hSr hb2) | (at_builtin; refine Lib.wpList_append_byte rfl _ _ 30 rfl B 5 i0 Tryd.underlying30 hin hz0 hz1 hz2 _ _ _ rfl w _ _ (by exact hbo) rfl (by omega) ?_; intro v3 w3 hb; have hcv := buf_string (l := [r % 256]) (by simpa [Lib.intCells] using hb); have hS3 : w3.cell? ⟨1, 0, none⟩ = some (.iface t x) := Syn.below HS.out (by have := hb.2.1; rwa [HB.out] at this)))
                  all_goals
                    go_ret3
                    refine ⟨(by have := hb.2.1; rwa [HB.out] at this), ?_⟩
                    rw [← HR.out, HFF.out, hn.out, hput.out]; rfl
                · subst hp
                  go_wp2_with (first | (go_at_call 31; go_fit cU; rintro e w2 ⟨hb2, he⟩; obtain rfl := he; have hbo := buf_below Hb0.out hb2; have hS2 : w2.cell? ⟨1, 0, none⟩ = some (.iface t x) := Syn.below hSr hb2) | (at_builtin; refine Lib.wpList_append_byte rfl _ _ 30 rfl B 5 i0 Tryd.underlying30 hin hz0 hz1 hz2 _ _ _ rfl w _ _ (by exact hbo) rfl (by omega) ?_; intro v3 w3 hb; have hcv := buf_string (l := [r % 256]) (by simpa [Lib.intCells] using hb); have hS3 : w3.cell? ⟨1, 0, none⟩ = some (.iface t x) := Syn.below HS.out (by have := hb.2.1; rwa [HB.out] at this)))
                  all_goals
                    go_ret3
                    refine ⟨(by have := hb.2.1; rwa [HB.out] at this), ?_⟩
                    rw [← HR.out, HFF.out, hn.out, hput.out]; rfl
              · have hput : Hid (Uq.put r m = Lib.encodeRuneZ r) := by show _ = _; rw [Uq.put, if_neg hp]
                have hmt : m = true := by
                  cases m
                  · exact absurd (.inr rfl) hp
                  · rfl
                have hr128 : decide (r < 128) = false := decide_eq_false fun h => hp (.inl h)
                subst hmt
                have hrb : 0 ≤ r ∧ r ≤ 1114111 := by
                  rcases hus.2 with h | h
                  · cases h
                  · exact h
                clear hp
                have cA : ∀ w2, Lib.OwnBuf B 5 (Value.slice (some ⟨wv.heap.size, 0, none⟩) 0 c) 0 (Lib.intCells []) w w2 → Calls Tryd.prog 32 #[Value.slice (some ⟨wv.heap.size, 0, none⟩) 0 c, .int .i32 r] w2 fun e w' => ∃ v', e = .returned v' ∧ Lib.OwnBuf B 5 v' (0 + (Lib.runeCells r).length) (Lib.intCells [] ++ Lib.runeCells r) w w' := fun w2 hb2 =>
                  (Any.utf8_AppendRune_row Tryd.lays242 Tryd.info5' B (Value.slice (some ⟨wv.heap.size, 0, none⟩) 0 c) 0 _ r (by omega) (by omega) w2 hb2.1 (by omega) hb2.2.2).mono fun e w' ⟨v', h1, h2, o, h3⟩ => ⟨v', h1, (hb2.alloc o).grown h2 h3⟩
                go_wp2_with (first | (go_at_call 31; go_fit cU; rintro e w2 ⟨hb2, he⟩; obtain rfl := he; have hbo := buf_below Hb0.out hb2; have hS2 : w2.cell? ⟨1, 0, none⟩ = some (.iface t x) := Syn.below hSr hb2) | (go_at_call 32; go_fit (cA _ hbo); rintro e w3 ⟨v3, rfl, hb⟩; have hcv := buf_string (l := Lib.encodeRuneZ r) (by simpa [Lib.intCells, Lib.runeCells] using hb); have hS3 : w3.cell? ⟨1, 0, none⟩ = some (.iface t x) := Syn.below HS.out (by have := hb.2.1; rwa [HB.out] at this)))
                all_goals
                  go_ret3
                  refine ⟨(by have := hb.2.1; rwa [HB.out] at this), ?_⟩
                  rw [← HR.out, HFF.out, hn.out, hput.out]; rfl
            · have hn : Hid (Uq.uloop 39 (l.length + 1) l [] = none) := by show _ = _; rw [hn0]; simp [hc']
              have hd1 : ((c'.toNat : Int) == 39) = false := ne_k (nat_ne hc' rfl)
              clear hn0 hc'
              by_cases hp : r < 128 ∨ m = false
              · have hput : Hid (Uq.put r m = [r % 256]) := by show _ = _; rw [Uq.put, if_pos hp]
                rcases hp with hp | hp
                · have hr128 : decide (r < 128) = true := decide_eq_true hp
                  go_wp2_with (first | (go_at_call 31; go_fit cU; rintro e w2 ⟨hb2, he⟩; obtain rfl := he; have hbo := buf_below Hb0.out hb2; have hS2 : w2.cell? ⟨1, 0, none⟩ = some (.iface t x) := Syn.below hSr hb2) | (at_builtin; refine Lib.wpList_append_byte rfl _ _ 30 rfl B 5 i0 Tryd.underlying30 hin hz0 hz1 hz2 _ _ _ rfl w _ _ (by exact hbo) rfl (by omega) ?_; intro v3 w3 hb; have hcv := buf_string (l := [r % 256]) (by simpa [Lib.intCells] using hb); have hS3 : w3.cell? ⟨1, 0, none⟩ = some (.iface t x) := Syn.below HS.out (by have := hb.2.1; rwa [HB.out] at this)))
                  all_goals
                    go_quiet (fail)
                    go_wp2_with fail
                    go_ret3
                    refine ⟨below_drewN (by have := hb.2.1; rwa [HB.out] at this) _, ?_⟩
                    rw [← HR.out, HFF.out, hn.out]; rfl
                · subst hp
                  go_wp2_with (first | (go_at_call 31; go_fit cU; rintro e w2 ⟨hb2, he⟩; obtain rfl := he; have hbo := buf_below Hb0.out hb2; have hS2 : w2.cell? ⟨1, 0, none⟩ = some (.iface t x) := Syn.below hSr hb2) | (at_builtin; refine Lib.wpList_append_byte rfl _ _ 30 rfl B 5 i0 Tryd.underlying30 hin hz0 hz1 hz2 _ _ _ rfl w _ _ (by exact hbo) rfl (by omega) ?_; intro v3 w3 hb; have hcv := buf_string (l := [r % 256]) (by simpa [Lib.intCells] using hb); have hS3 : w3.cell? ⟨1, 0, none⟩ = some (.iface t x) := Syn.below HS.out (by have := hb.2.1; rwa [HB.out] at this)))
                  all_goals
                    go_quiet (fail)
                    go_wp2_with fail
                    go_ret3
                    refine ⟨below_drewN (by have := hb.2.1; rwa [HB.out] at this) _, ?_⟩
                    rw [← HR.out, HFF.out, hn.out]; rfl
              · have hput : Hid (Uq.put r m = Lib.encodeRuneZ r) := by show _ = _; rw [Uq.put, if_neg hp]
                have hmt : m = true := by
                  cases m
                  · exact absurd (.inr rfl) hp
                  · rfl
                have hr128 : decide (r < 128) = false := decide_eq_false fun h => hp (.inl h)
                subst hmt
                have hrb : 0 ≤ r ∧ r ≤ 1114111 := by
                  rcases hus.2 with h | h
                  · cases h
                  · exact h
                clear hp
                have cA : ∀ w2, Lib.OwnBuf B 5 (Value.slice (some ⟨wv.heap.size, 0, none⟩) 0 c) 0 (Lib.intCells []) w w2 → Calls Tryd.prog 32 #[Value.slice (some ⟨wv.heap.size, 0, none⟩) 0 c, .int .i32 r] w2 fun e w' => ∃ v', e = .returned v' ∧ Lib.OwnBuf B 5 v' (0 + (Lib.runeCells r).length) (Lib.intCells [] ++ Lib.runeCells r) w w' := fun w2 hb2 =>
                  (Any.utf8_AppendRune_row Tryd.lays242 Tryd.info5' B (Value.slice (some ⟨wv.heap.size, 0, none⟩) 0 c) 0 _ r (by omega) (by omega) w2 hb2.1 (by omega) hb2.2.2).mono fun e w' ⟨v', h1, h2, o, h3⟩ => ⟨v', h1, (hb2.alloc o).grown h2 h3⟩
                go_wp2_with (first | (go_at_call 31; go_fit cU; rintro e w2 ⟨hb2, he⟩; obtain rfl := he; have hbo := buf_below Hb0.out hb2; have hS2 : w2.cell? ⟨1, 0, none⟩ = some (.iface t x) := Syn.below hSr hb2) | (go_at_call 32; go_fit (cA _ hbo); rintro e w3 ⟨v3, rfl, hb⟩; have hcv := buf_string (l := Lib.encodeRuneZ r) (by simpa [Lib.intCells, Lib.runeCells] using hb); have hS3 : w3.cell? ⟨1, 0, none⟩ = some (.iface t x) := Syn.below HS.out (by have := hb.2.1; rwa [HB.out] at this)))
                all_goals
                  go_quiet (fail)
                  go_wp2_with fail
                  go_ret3
                  refine ⟨below_drewN (by have := hb.2.1; rwa [HB.out] at this) _, ?_⟩
                  rw [← HR.out, HFF.out, hn.out]; rfl

end Go.Proofs.Qxb6609089aDoor
