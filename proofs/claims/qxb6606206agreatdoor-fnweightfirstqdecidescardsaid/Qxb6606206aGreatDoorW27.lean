import Derived.Test.Qxb6606206aGreatDoorW26
set_option linter.unusedSimpArgs false
set_option linter.unusedVariables false
namespace Go.Proofs.Qxb6606206aGreatDoor
open Go Go.RowKit
attribute [local go_sem] str_size str_get str_extract str_toList str_append

set_option maxHeartbeats 6400000 in
set_option maxRecDepth 20000 in
theorem weight_calls (l : List UInt8) (hl : l.length ≤ 100000000) (w : World) (hW : WT w) : Calls Tryz.prog 16 #[.string (str l)] w (WP w (wt num (segs l))) := by
  obtain ⟨R, hR⟩ : ∃ R, wt num (segs l) = R := ⟨_, rfl⟩
  have HR : Hid (wt num ((segs l).drop 0) = R) := hR
  rw [hR]
  clear hR
  have cS := split_calls l (by omega) w hW
  obtain ⟨n, hn⟩ : ∃ n, (segs l).length = n := ⟨_, rfl⟩
  rw [hn] at cS
  have hnl : n ≤ 100000001 := by rw [← hn, segs_length]; have := List.count_le_length (a := (59 : UInt8)) (l := l); omega
  obtain ⟨w1, hw1⟩ : ∃ w1, w1 = w.alloc (.cells ((segs l).map fun p => Value.string (str p)).toArray 9) := ⟨_, rfl⟩
  rw [← hw1] at cS
  have hb1 : Below w.heap.size w w1 := by rw [hw1]; exact (Below.refl _ _).alloc (Nat.le_refl _) _
  have hg1 : w.heap.size < w1.heap.size := by rw [hw1]; simp
  have hrow : ∀ i p, (segs l)[i]? = some p → w1.cell? ⟨w.heap.size, i, none⟩ = some (.string (str p)) := fun i p h => by
    rw [hw1, World.cell?_alloc_at _ _ _ _ (by simp)]
    simp [h]
  have HN := hid_of hn
  have HW1 := hid_of (hW.below hb1)
  have HB1 := hid_of hb1
  have HROW := hid_of hrow
  clear hn hw1 hb1 hW hrow
  go_enter Tryz.func16, Tryz.ntmps16
  go_wp2_with (go_at_call 19; go_fit cS; rintro e w' ⟨rfl, hww⟩; have hww' := hww.symm; subst hww'; clear hww)
  go_loopw [13] (fun v13 wr => ∃ i : Nat, v13 = .int .i64 i ∧ i ≤ n ∧ Below w1.heap.size w1 wr ∧ Hid (wt num ((segs l).drop i) = R)) (fun vi _ => n - (intOf vi).toNat)
  case atStart => exact ⟨0, rfl, by omega, Below.refl _ _, HR⟩
  case round =>
    obtain ⟨i, rfl, hi, hb, hq⟩ := hrel
    have hbb := hid_of hb
    have hWr := HW1.out.below hb
    clear HR cS
    by_cases hlt : i < n
    · have hlt' : i < (segs l).length := by rw [HN.out]; exact hlt
      have cell := (hb.cell (p := ⟨w.heap.size, i, none⟩) hg1).trans (HROW.out i _ (List.getElem?_eq_getElem hlt'))
      obtain ⟨p, hp⟩ : ∃ p, (segs l)[i] = p := ⟨_, rfl⟩
      rw [hp] at cell
      have hpl := segs_len l p (by rw [← hp]; exact List.getElem_mem _)
      have hst : Hid (wt num ((segs l).drop i) = if isQ (nameOf p) then num (valOf p) else wt num ((segs l).drop (i + 1))) := by
        show _ = _
        rw [List.drop_eq_getElem_cons hlt', hp]; rfl
      have hcl := cut_len p
      have cC := cut_calls p (by omega) wr hWr
      have cT1 := fun w' => trim_sp (Lib.cut p [61]).1 (by omega) w'
      have hn1 := trim_len (Lib.cut p [61]).1 [32, 9]
      have hn2 := trim_len (Lib.cut p [61]).2.1 [32, 9]
      have cF := fun w' hA => fold_calls (Lib.trimS (Lib.cut p [61]).1 [32, 9]) (by omega) w' hA
      have cT2 := fun w' => trim_sp (Lib.cut p [61]).2.1 (by omega) w'
      have cP := pfF_gives (Lib.trimS (Lib.cut p [61]).2.1 [32, 9]) (by omega)
      have e1 : Lib.trimS (Lib.cut p [61]).1 [32, 9] = nameOf p := rfl
      have e2 : Lib.trimS (Lib.cut p [61]).2.1 [32, 9] = valOf p := rfl
      rw [e1] at cT1 cF
      rw [e2] at cT2 cP
      have HWR := hid_of hWr
      clear hb hWr hp e1 e2 hn1 hn2 hcl hpl hlt'
      generalize (Lib.cut p [61]).1 = p1 at cC cT1
      generalize (Lib.cut p [61]).2.1 = p2 at cC cT2
      generalize (Lib.cut p [61]).2.2 = p3 at cC
      generalize nameOf p = nm at cT1 cF hst
      generalize valOf p = vl at cT2 cP hst
      cases hQ : isQ nm with
      | false =>
        rw [hQ] at cF hst
        have hs2 : Hid (wt num ((segs l).drop i) = wt num ((segs l).drop (i + 1))) := hst
        clear hst hQ
        go_wp2_with (first
          | (go_at_call 20; go_fit cC; rintro e w2 ⟨rfl, hb2⟩)
          | (go_at_call 22; go_fit (cT1 _); rintro e w3 ⟨rfl, hb3⟩)
          | (go_at_call 21; go_fit (cF _ (HWR.out.below (hb2.trans (hb3.mono hb2.size))).af); rintro e w4 ⟨rfl, hb4⟩))
        refine ⟨⟨i + 1, rfl, by omega, ?_, ?_⟩, by simp [intOf]; omega⟩
        · have h23 := hb2.trans (hb3.mono hb2.size)
          have h24 := h23.trans (hb4.mono h23.size)
          exact hbb.out.trans (h24.mono hbb.out.size)
        · show _ = _
          rw [← hs2.out]; exact hq.out
      | true =>
        rw [hQ] at cF hst
        have hs2 : Hid (R = num vl) := by show _ = _; rw [← hq.out, hst.out]; rfl
        clear hst hQ hq
        unfold PF at cP
        obtain ⟨f, hf⟩ : ∃ f, pfF vl = f := ⟨_, rfl⟩
        rw [hf] at cP
        cases hbad : pfB vl with
        | true =>
          have hR0 : Hid (R = 0) := by show _ = _; rw [hs2.out, num, hbad]; rfl
          rw [hbad] at cP
          clear hs2
          go_wp2_with (first
            | (go_at_call 20; go_fit cC; rintro e w2 ⟨rfl, hb2⟩)
            | (go_at_call 22; go_fit (cT1 _); rintro e w3 ⟨rfl, hb3⟩)
            | (go_at_call 21; go_fit (cF _ (HWR.out.below (hb2.trans (hb3.mono hb2.size))).af); rintro e w4 ⟨rfl, hb4⟩; have h23 := hb2.trans (hb3.mono hb2.size); have h24 := h23.trans (hb4.mono h23.size))
            | (go_at_call 22; go_fit (cT2 _); rintro e w5 ⟨rfl, hb5⟩; have h25 := h24.trans (hb5.mono h24.size))
            | (go_at_call 25; go_fit (cP _ (HWR.out.below h25).pt); rintro e w6 ⟨ev, rfl, ⟨t6, x6, rfl⟩, hb6⟩))
          go_ret
          rw [hR0.out]
          have h26 := h25.trans (hb6.mono h25.size)
          have hA := hbb.out.trans (h26.mono hbb.out.size)
          exact ⟨rfl, HB1.out.trans (hA.mono HB1.out.size)⟩
        | false =>
          rw [hbad] at cP
          cases hg : (ge0 f && le1 f) with
          | true =>
            have hR0 : Hid (R = f) := by show _ = _; rw [hs2.out, num, hbad, hf, hg]; rfl
            rw [Bool.and_eq_true] at hg
            obtain ⟨hg1, hg2⟩ := hg
            unfold ge0 at hg1
            unfold le1 at hg2
            clear hs2
            go_wp2_with (first
              | (go_at_call 20; go_fit cC; rintro e w2 ⟨rfl, hb2⟩)
              | (go_at_call 22; go_fit (cT1 _); rintro e w3 ⟨rfl, hb3⟩)
              | (go_at_call 21; go_fit (cF _ (HWR.out.below (hb2.trans (hb3.mono hb2.size))).af); rintro e w4 ⟨rfl, hb4⟩; have h23 := hb2.trans (hb3.mono hb2.size); have h24 := h23.trans (hb4.mono h23.size))
              | (go_at_call 22; go_fit (cT2 _); rintro e w5 ⟨rfl, hb5⟩; have h25 := h24.trans (hb5.mono h24.size))
              | (go_at_call 25; go_fit (cP _ (HWR.out.below h25).pt); rintro e w6 ⟨ev, rfl, hev, hb6⟩; have hev2 : ev = .nilIface := (by simpa using hev); subst hev2; clear hev))
            go_ret
            rw [hR0.out]
            have h26 := h25.trans (hb6.mono h25.size)
            have hA := hbb.out.trans (h26.mono hbb.out.size)
            exact ⟨rfl, HB1.out.trans (hA.mono HB1.out.size)⟩
          | false =>
            have hR0 : Hid (R = 0) := by show _ = _; rw [hs2.out, num, hbad, hf, hg]; rfl
            clear hs2
            cases hg1 : ge0 f with
            | false =>
              unfold ge0 at hg1
              clear hg
              go_wp2_with (first
                | (go_at_call 20; go_fit cC; rintro e w2 ⟨rfl, hb2⟩)
                | (go_at_call 22; go_fit (cT1 _); rintro e w3 ⟨rfl, hb3⟩)
                | (go_at_call 21; go_fit (cF _ (HWR.out.below (hb2.trans (hb3.mono hb2.size))).af); rintro e w4 ⟨rfl, hb4⟩; have h23 := hb2.trans (hb3.mono hb2.size); have h24 := h23.trans (hb4.mono h23.size))
                | (go_at_call 22; go_fit (cT2 _); rintro e w5 ⟨rfl, hb5⟩; have h25 := h24.trans (hb5.mono h24.size))
                | (go_at_call 25; go_fit (cP _ (HWR.out.below h25).pt); rintro e w6 ⟨ev, rfl, hev, hb6⟩; have hev2 : ev = .nilIface := (by simpa using hev); subst hev2; clear hev))
              go_ret
              rw [hR0.out]
              have h26 := h25.trans (hb6.mono h25.size)
              have hA := hbb.out.trans (h26.mono hbb.out.size)
              exact ⟨rfl, HB1.out.trans (hA.mono HB1.out.size)⟩
            | true =>
              have hg2 : le1 f = false := by rw [hg1] at hg; exact hg
              unfold ge0 at hg1
              unfold le1 at hg2
              clear hg
              go_wp2_with (first
                | (go_at_call 20; go_fit cC; rintro e w2 ⟨rfl, hb2⟩)
                | (go_at_call 22; go_fit (cT1 _); rintro e w3 ⟨rfl, hb3⟩)
                | (go_at_call 21; go_fit (cF _ (HWR.out.below (hb2.trans (hb3.mono hb2.size))).af); rintro e w4 ⟨rfl, hb4⟩; have h23 := hb2.trans (hb3.mono hb2.size); have h24 := h23.trans (hb4.mono h23.size))
                | (go_at_call 22; go_fit (cT2 _); rintro e w5 ⟨rfl, hb5⟩; have h25 := h24.trans (hb5.mono h24.size))
                | (go_at_call 25; go_fit (cP _ (HWR.out.below h25).pt); rintro e w6 ⟨ev, rfl, hev, hb6⟩; have hev2 : ev = .nilIface := (by simpa using hev); subst hev2; clear hev))
              go_ret
              rw [hR0.out]
              have h26 := h25.trans (hb6.mono h25.size)
              have hA := hbb.out.trans (h26.mono hbb.out.size)
              exact ⟨rfl, HB1.out.trans (hA.mono HB1.out.size)⟩
    · have hR0 : Hid (R = 4607182418800017408) := by
        show _ = _
        rw [← hq.out, List.drop_eq_nil_of_le (by rw [HN.out]; omega)]; rfl
      clear hq hb hWr
      go_wp2_with fail
      go_ret
      rw [hR0.out]
      exact ⟨rfl, HB1.out.trans (hbb.out.mono HB1.out.size)⟩
end Go.Proofs.Qxb6606206aGreatDoor
