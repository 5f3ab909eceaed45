import Derived.Test.Qxb6614395aFmtE1
set_option linter.unusedSimpArgs false
set_option linter.unusedVariables false
namespace Go.Proofs.Qxb6614395aFmt
open Go Go.RowKit Go.Deep Go.Extern.Stop Go.Stop Go.Extern
attribute [local go_sem] str_size str_get str_extract str_toList str_append
set_option maxHeartbeats 6400000 in
set_option maxRecDepth 1000000 in
theorem rrq_calls (F : Interp) (g : Nat) (c0 : CV) (bE bF : Addr) (s : Nat × Bool) (rest : List UInt8) (r : Nat) (bytes0 : List UInt8) (ixs0 ps0 : List Value) (w : World) (E : Env F g bE bF c0 w) (hlen : c0.nl + rest.length ≤ 1000000)
    (hsrc : Src g (tripA bE) s rest r w) (hrows : Rows5 g c0 bytes0 ixs0 ps0 w) :
    Calls Tryf.prog 38 #[.pointer (some ⟨g + 4, 0, none⟩), c0.last] w (RRQ g c0 bE (qx s rest 0) w) := by
  obtain ⟨R, hR⟩ : ∃ R, qx s rest 0 = R := ⟨_, rfl⟩
  rw [hR]
  have HR := hid_of hR
  have HE := hid_of E
  have HROW := hid_of hrows
  have HSRC := hid_of hsrc
  have c_0 := hrows.csv.cell (i := 0) rfl
  have c_1 := hrows.csv.cell (i := 1) rfl
  clear hR E hrows hsrc
  go_enter Tryf.func38, Tryf.ntmps38
  go_wp2_with fail
  apply wp_scope_straight
  go_upto_region 1 with fail
  go_quiet (exact Calls.quiet_of_same (validDelim_calls _))
  go_upto_block 0 with fail
  go_cut [6, 7] from 57 to 86 (fun v6 v7 wr => SkipQ g c0 bE R w v6 v7 wr)
  case first =>
    go_wp2_with fail
    go_loopg [6, 7] (rest.length + 1) (fun f v6 v7 wr => ∃ (c : CV) (s : Nat × Bool) (rest : List UInt8) (r : Nat) (bytes : List UInt8) (ixs ps : List Value) (b : Nat), v7 = .nilIface ∧ Hid (SkJ g c0 bE R w f c s rest r b bytes ixs ps wr))
    case atStart => exact ⟨c0, s, rest, r, bytes0, ixs0, ps0, 0, rfl, ⟨HSRC.out, ⟨HROW.out.csv, HROW.out.raw, HROW.out.rbuf, HROW.out.idx, HROW.out.pos, HROW.out.last, HROW.out.apart, HROW.out.size⟩, ⟨(Only.refl _ _).drewN _, .inl rfl, .inl rfl, .inl rfl, .inl rfl, .inl rfl⟩, rfl, rfl, rfl, rfl, hlen, rfl, HR.out, Nat.lt_succ_self _⟩⟩
    case round =>
      clear HSRC HROW HR c_0 c_1
      obtain ⟨c, s, rest, r, bytes, ixs, ps, b, rfl, hski⟩ := hrel
      obtain ⟨hsrc, hrow, hfrom, e1, e2, e3, e4, hnl, hcb, hR, hfl⟩ := hski.out
      obtain ⟨n1, x1, hraw⟩ := hrow.raw
      have hSr : Sent g bE bF wr := HE.out.sent hfrom.only
      have cL := rdl_calls F g c bE bF s rest r n1 x1 wr (HE.out.ans hfrom.only) hSr hrow.size (by omega) (by omega) hsrc hrow.csv hraw
      have HSr := hid_of hSr
      have HROW := hid_of hrow
      have HFROM := hid_of hfrom
      have HR := hid_of hR
      clear hsrc hrow hfrom hraw hski hSr hR
      go_upto_region 7 with (go_at_call 51; go_fit cL; rintro e w2 ⟨lb, lo, n, cap, ln, E, raw, off, rfl, hnc, hln, hn2, hseg, hlb, hraw2, hcs2, ho2, hloc2, hrdc⟩)
      have hrow2 : Rows5 g { c with nl := c.nl + 1, off := off, raw := raw } bytes ixs ps w2 := HROW.out.rdl ho2 hcs2 hraw2 hloc2
      have hfrom2 : From g c0 { c with nl := c.nl + 1, off := off, raw := raw } w w2 := HFROM.out.rdl ho2 hloc2
      have d1 := hcs2.cell (i := 1) rfl
      have cN := fun m => nl_calls (w2.drewN m) lb lo n cap ln hln (by omega) hseg
      have HROW2 := hid_of hrow2
      have HFROM2 := hid_of hfrom2
      have HSEG := hid_of hseg
      have HLB := hid_of hlb
      have HLN := hid_of hln
      clear hcs2 hraw2 ho2 hloc2 hrow2 hfrom2 hseg hlb hln cL
      rcases hrdc with ⟨hrne, rfl, hfit, hlne, r2, hsr2⟩ | ⟨hre, rfl, hlne, r2, hsr2⟩ | ⟨N, rfl, hN, hNc, hNb, htr⟩
      · obtain ⟨f, rfl⟩ : ∃ f, gk = f + 1 := ⟨gk - 1, by omega⟩
        have hm : 0 < lineLen rest := lineLen_pos (List.length_pos_iff.2 hrne)
        have hml := lineLen_le rest
        have hdl : (rest.drop (lineLen rest)).length = rest.length - lineLen rest := List.length_drop
        have HLNE := hid_of hlne
        have HSR2 := hid_of hsr2
        clear hlne hsr2
        by_cases hemp : ln = [] ∨ ln = [10]
        · have hnn : n = nlOf ln := by rw [← HLN.out]; exact nlOf_all.2 hemp
          have hee : norm (rest.take (lineLen rest)) = [] ∨ norm (rest.take (lineLen rest)) = [10] := by rw [← HLNE.out]; exact hemp
          have HRS := hid_of (qx_skip (b := b) hrne hfit hee)
          rw [← hnn] at cN
          clear hemp hee hnn
          go_quiet (fail)
          go_wp2_with (go_at_call 53; go_fit (cN _); rintro e w' ⟨rfl, rfl⟩)
          go_roundg f
          case measure => omega
          case rel =>
            refine ⟨{ c with nl := c.nl + 1, off := off, raw := raw }, adv s (rest.take (lineLen rest)), rest.drop (lineLen rest), r2, bytes, ixs, ps, b + 1, rfl, ⟨HSR2.out, ⟨HROW2.out.csv, HROW2.out.raw, HROW2.out.rbuf, HROW2.out.idx, HROW2.out.pos, HROW2.out.last, HROW2.out.apart, HROW2.out.size⟩, ⟨HFROM2.out.only.drewN _, HFROM2.out.raw, HFROM2.out.rbuf, HFROM2.out.idx, HFROM2.out.pos, HFROM2.out.last⟩, e1, e2, e3, e4, ?_, ?_, ?_, ?_⟩⟩
            · simp only []; omega
            · simp only []; omega
            · rw [← HRS.out]; exact HR.out
            · omega
        · have hnn : ¬ n = nlOf ln := by rw [← HLN.out]; exact fun h => hemp (nlOf_all.1 h)
          have hnn' : ((n : Int) == (nlOf ln : Int)) = false := by rw [beq_eq_false_iff_ne]; omega
          have hee : ¬ (norm (rest.take (lineLen rest)) = [] ∨ norm (rest.take (lineLen rest)) = [10]) := by rw [← HLNE.out]; exact hemp
          have HRS := hid_of (qx_rec (b := b) hrne hfit hee)
          clear hemp hee hnn
          go_quiet (fail)
          go_wp2_with (go_at_call 53; go_fit (cN _); rintro e w' ⟨rfl, rfl⟩)
          go_meet
          refine ⟨lb, lo, n, cap, ln, { c with nl := c.nl + 1, off := off, raw := raw }, bytes, ixs, ps, rfl, hnc, HLN.out, hn2, HSEG.out, HLB.out, ⟨HROW2.out.csv, HROW2.out.raw, HROW2.out.rbuf, HROW2.out.idx, HROW2.out.pos, HROW2.out.last, HROW2.out.apart, HROW2.out.size⟩, ⟨HFROM2.out.only.drewN _, HFROM2.out.raw, HFROM2.out.rbuf, HFROM2.out.idx, HFROM2.out.pos, HFROM2.out.last⟩, e1, e2, e3, e4, b + 1, ?_, .inl ⟨rfl, _, _, r2, HSR2.out, ?_, ?_, ?_⟩⟩
          · simp only []; omega
          · rw [HLNE.out, ← HRS.out]; exact HR.out
          · simp only []; omega
          · have h1 := HLNE.out
            have h2 := norm_length (rest.take (lineLen rest))
            rw [List.length_take] at h2
            rw [h1, hdl]
            omega
      · have HR2 : Hid (R = .err) := by show _ = _; rw [← HR.out, hre]; exact qx_nil
        clear hsr2
        simp only [tripE, tripA]
        go_quiet (fail)
        go_wp2_with fail
        go_meet
        refine ⟨lb, lo, n, cap, ln, { c with nl := c.nl + 1, off := off, raw := raw }, bytes, ixs, ps, rfl, hnc, HLN.out, hn2, HSEG.out, HLB.out, ⟨HROW2.out.csv, HROW2.out.raw, HROW2.out.rbuf, HROW2.out.idx, HROW2.out.pos, HROW2.out.last, HROW2.out.apart, HROW2.out.size⟩, ⟨HFROM2.out.only.drewN _, HFROM2.out.raw, HFROM2.out.rbuf, HFROM2.out.idx, HFROM2.out.pos, HFROM2.out.last⟩, e1, e2, e3, e4, b + 1, ?_, .inr (.inl ⟨rfl, HR2.out⟩)⟩
        simp only []; omega
      · have HR2 : Hid (R = .err) := by show _ = _; rw [← HR.out]; exact qx_trip htr
        have HNc := hid_of hNc
        clear hNc
        simp only [tripE, tripA]
        go_quiet (fail)
        go_wp2_with fail
        go_meet
        refine ⟨lb, lo, n, cap, ln, { c with nl := c.nl + 1, off := off, raw := raw }, bytes, ixs, ps, rfl, hnc, HLN.out, hn2, HSEG.out, HLB.out, ⟨HROW2.out.csv, HROW2.out.raw, HROW2.out.rbuf, HROW2.out.idx, HROW2.out.pos, HROW2.out.last, HROW2.out.apart, HROW2.out.size⟩, ⟨HFROM2.out.only.drewN _, HFROM2.out.raw, HFROM2.out.rbuf, HFROM2.out.idx, HFROM2.out.pos, HFROM2.out.last⟩, e1, e2, e3, e4, b + 1, ?_, .inr (.inr ⟨N, rfl, hN, HNc.out, HR2.out⟩)⟩
        simp only []; omega
  case rest =>
  clear HSRC HR c_0 c_1 hlen
  obtain ⟨lb, lo, n, cap, ln, c, bytes, ixs, ps, rfl, hnc, hln, hn2, hseg, hlb, hrow, hfrom, e1, e2, e3, e4, a, hca, hv7⟩ := hcut
  have hSc : Sent g bE bF wc := HE.out.sent hfrom.only
  have hEc : wc.cell? ⟨0, 0, none⟩ = some (.iface 99 (.pointer (some bE))) := hSc.e
  have hg10 := hSc.g10
  have heg := hSc.eg
  go_upto_region 11 with fail
  go_cut [89] from 87 to 88 (fun v89 wr => (∃ bb : Bool, v89 = .bool bb ∧ (bb = true ↔ u7 = tripA bE)) ∧ wr = wc)
  case first =>
    rcases hv7 with ⟨rfl, -⟩ | ⟨rfl, -⟩ | ⟨N, rfl, hN, hNc, -⟩
    · have hq := eql_nil wc bE
      go_wp2_with fail
      go_meet
      exact ⟨⟨_, rfl, by simp [tripE, tripA]⟩, rfl⟩
    · have hq := eql_same wc bE
      simp only [tripE, tripA]
      go_wp2_with fail
      go_meet
      exact ⟨⟨_, rfl, by simp⟩, rfl⟩
    · have hNE : (⟨N, 0, none⟩ : Addr) ≠ bE := trip_ne heg (by omega)
      have hq := eql_other wc ⟨N, 0, none⟩ bE hNE hNc hSc.ce
      simp only [tripE, tripA]
      go_wp2_with fail
      go_meet
      exact ⟨⟨_, rfl, by simp [tripE, tripA, hNE]⟩, rfl⟩
  case rest =>
  obtain ⟨⟨bb, rfl, hbb⟩, hw⟩ := hcut
  have hw' := hw.symm
  subst hw'
  clear hw
  cases bb with
  | true =>
    have hE : u7 = tripA bE := hbb.1 rfl
    have hRe : R = .err := by
      rcases hv7 with ⟨h, -⟩ | ⟨-, h⟩ | ⟨N, h, hN, -, h'⟩
      · rw [h] at hE; cases hE
      · exact h
      · exact h'
    subst hE
    have HC := hid_of hrow.csv
    have HO := hid_of hfrom.only
    clear hv7 hbb hrow hfrom hseg hlb hln
    go_wp2_with fail
    go_ret2
    exact .inl ⟨hRe, none, 0, 0, _, rfl, ⟨_, _, rfl, fun _ => .inl rfl⟩, HO.out, c, HC.out⟩
  | false =>
  have hv : (u7 = .nilIface ∧ ∃ s rest r, Src g (tripA bE) s rest r wc ∧ par [] none ln s rest a a = R ∧ c.nl + rest.length ≤ 1000000 ∧ ln.length + rest.length ≤ 1000000) ∨ (∃ N, u7 = tripE N ∧ g + 6 ≤ N ∧ IsC N wc ∧ R = .err) := by
    rcases hv7 with h | ⟨h, -⟩ | h
    · exact .inl h
    · have := hbb.2 h; cases this
    · exact .inr h
  have HV := hid_of hv
  clear hbb hv7 hv
  have E1 := hid_of e1
  have E2 := hid_of e2
  have E3 := hid_of e3
  have E4 := hid_of e4
  have HCA := hid_of hca
  have HSEG := hid_of hseg
  have HLB := hid_of hlb
  have HLN := hid_of hln
  have HFR := hid_of hfrom
  clear e1 e2 e3 e4 hca hseg hlb hln hfrom hSc hEc
  obtain ⟨v1, hv1, hown1, hval1⟩ := own_cut hrow.rbuf
  have hr1 := hrow.cutRbuf hv1 hown1
  have d0 := hrow.csv.cell (i := 0) rfl
  have d8 := hrow.csv.cell (i := 8) rfl
  have d11 := hrow.csv.cell (i := 11) rfl
  have f11 := hrow.csv.frozen 11
  have HROW1 := hid_of hrow
  have HR1 := hid_of hr1
  clear hrow hr1 hown1
  go_upto_region 16 with (go_at_call 54; go_fit (runeLen_calls _); rintro e wa ⟨rfl, rfl⟩)
  go_cut [] from 100 to 107 (fun wr => wr = wa.setCell ⟨g + 4, 11, none⟩ v1)
  case first =>
    rcases hval1 with ⟨h1, rfl⟩ | ⟨b, cp, h1, rfl, hb0⟩
    · rw [h1] at d11
      go_wp2_with fail
      go_meet
      rfl
    · rw [h1] at d11
      go_wp2_with fail
      go_meet
      rfl
  case rest =>
  have hWa : Only (fun k => k = g + 4) wa (wa.setCell ⟨g + 4, 11, none⟩ v1) := (Only.refl (fun k => k = g + 4) _).setCell (.inl rfl) _
  obtain ⟨w1, hw1⟩ : ∃ w1, wa.setCell ⟨g + 4, 11, none⟩ v1 = w1 := ⟨_, rfl⟩
  rw [hw1] at HR1 hcut hWa
  have hcut' := hcut.symm
  subst hcut'
  have HWA := hid_of hWa
  clear hcut hw1 d0 d8 d11 f11 hval1 hWa
  have hR1 := HR1.out
  obtain ⟨v2, hv2, hown2, hval2⟩ := own_cut hR1.idx
  have hr2 := hR1.cutIdx hown2
  have HR2 := hid_of hr2
  have d12 := hR1.csv.cell (i := 12) rfl
  have f12 := hR1.csv.frozen 12
  simp only [] at d12 hval2 hv2
  clear hr2 hown2 hR1
  go_upto_region 17 with fail
  go_cut [] from 108 to 115 (fun wr => wr = w1.setCell ⟨g + 4, 12, none⟩ v2)
  case first =>
    rcases hval2 with ⟨h1, rfl⟩ | ⟨b, cp, h1, rfl, hb0⟩
    · rw [h1] at d12
      go_wp2_with fail
      go_meet
      rfl
    · rw [h1] at d12
      go_wp2_with fail
      go_meet
      rfl
  case rest =>
  have hWb : Only (fun k => k = g + 4) w1 (w1.setCell ⟨g + 4, 12, none⟩ v2) := (Only.refl (fun k => k = g + 4) _).setCell (.inl rfl) _
  obtain ⟨w2, hw2⟩ : ∃ w2, w1.setCell ⟨g + 4, 12, none⟩ v2 = w2 := ⟨_, rfl⟩
  rw [hw2] at HR2 hcut hWb
  have hcut' := hcut.symm
  subst hcut'
  have HWB := hid_of hWb
  clear hcut hw2 d12 f12 hval2 hWb
  have hR2 := HR2.out
  obtain ⟨n5, hpos5⟩ := hR2.pos
  obtain ⟨v3, hv3, hown3, hval3⟩ := own_cut hpos5
  have hr3 := hR2.cutPos hown3
  have HR3 := hid_of hr3
  have d13 := hR2.csv.cell (i := 13) rfl
  have f13 := hR2.csv.frozen 13
  have d8 := hr3.csv.cell (i := 8) rfl
  simp only [] at d13 hval3 hv3 d8
  clear hr3 hown3 hR2 hpos5
  go_upto_region 18 with fail
  go_cut [] from 116 to 123 (fun wr => wr = w2.setCell ⟨g + 4, 13, none⟩ v3)
  case first =>
    rcases hval3 with ⟨h1, rfl⟩ | ⟨b, cp, h1, rfl, hb0⟩
    · rw [h1] at d13
      go_wp2_with fail
      go_meet
      rfl
    · rw [h1] at d13
      go_wp2_with fail
      go_meet
      rfl
  case rest =>
  have hWc : Only (fun k => k = g + 4) w2 (w2.setCell ⟨g + 4, 13, none⟩ v3) := (Only.refl (fun k => k = g + 4) _).setCell (.inl rfl) _
  obtain ⟨w3, hw3⟩ : ∃ w3, w2.setCell ⟨g + 4, 13, none⟩ v3 = w3 := ⟨_, rfl⟩
  rw [hw3] at HR3 hcut hWc d8
  have hcut' := hcut.symm
  subst hcut'
  have HWC := hid_of hWc
  clear hcut hw3 d13 f13 hval3 hWc
  go_upto_region 19 with fail
  go_wp2_with fail
  apply wp_label
  obtain ⟨w4, hw4⟩ : ∃ w4, w3.alloc (.cells #[.int .i64 c.nl, .int .i64 1] 85) = w4 := ⟨_, rfl⟩
  obtain ⟨P, hP⟩ : ∃ P, w3.heap.size = P := ⟨_, rfl⟩
  have hFS : FX g c0 w lb P (c.nl : Int) { c with rbuf := v1, idx := v2, pos := v3 } [] [] [] w4 ∧ RQ g bE R c0.nl a [] none ln c.nl 0 (ln.length + 6000000) u7 w4 := by
    have hA : Only (fun _ => False) w3 w4 := by rw [← hw4]; exact (Only.refl _ _).alloc _
    have hAll : Only (fun k => k = g + 4) wa w4 := ((HWA.out.trans HWB.out (fun _ _ h => h)).trans HWC.out (fun _ _ h => h)).trans hA (fun _ _ h => h.elim)
    have hr4 := HR3.out.only hA (fun _ _ h => h)
    have hpl : ∀ k, v3.ownBlock = some k → k < w3.heap.size := fun k hk => by
      obtain ⟨n9, h9⟩ := HR3.out.pos
      exact (h9.lt k hk).2
    refine ⟨⟨hr4, HFR.out.step (hAll.mono (fun k _ hk => .inr (.inl hk))) rfl ?_ ?_ ?_ HFR.out.last, E4.out, ⟨⟨1, ?_⟩, ?_, ?_, ?_⟩, HLB.out⟩, ?_⟩
    · have := HFR.out.rbuf; unfold Since at this ⊢; rw [hv1]; exact this
    · have := HFR.out.idx; unfold Since at this ⊢; rw [hv2]; exact this
    · have := HFR.out.pos; unfold Since at this ⊢; rw [hv3]; exact this
    · rw [← hw4, ← hP]; exact SAt.new w3 [.int .i64 c.nl, .int .i64 1] 85
    · rw [← hP]; exact HR3.out.size
    · intro hk
      have := hpl _ hk
      omega
    · rw [← hP]; exact Nat.le_trans HFR.out.only.size (Nat.le_trans HWA.out.size (Nat.le_trans HWB.out.size HWC.out.size))
    · have : RQ g bE R c0.nl a [] none ln c.nl 0 (ln.length + 6000000) u7 wa := by
        have hln' := HLN.out
        rcases HV.out with ⟨h1, s9, rest9, r9, h2, h3, h4, h5⟩ | ⟨N, h1, h2, h3, h4⟩
        · exact .inl ⟨h1, s9, rest9, r9, a, h2, h3, HCA.out, .inl (by have := HCA.out; omega), by omega, by omega⟩
        · exact .inr ⟨N, h1, h2, h3, h4, by omega, by omega⟩
      exact this.only hAll (fun k hk h => by unfold own at hk; omega)
  have hsegW : Seg w4 lb lo ln := by
    have hA : Only (fun _ => False) w3 w4 := by rw [← hw4]; exact (Only.refl _ _).alloc _
    have hAll : Only (fun k => k = g + 4) wa w4 := ((HWA.out.trans HWB.out (fun _ _ h => h)).trans HWC.out (fun _ _ h => h)).trans hA (fun _ _ h => h.elim)
    intro i hi
    have hc := HSEG.out i hi
    have hlbn : lb ≠ g + 4 := by
      rcases HLB.out with h | h
      · omega
      · obtain ⟨n9, x9, h9⟩ := HR3.out.raw
        have := (h9.lt lb h).1
        omega
    exact hAll.cell hc hlbn
  rw [hw4, hP]
  have HFS := hid_of hFS
  have HSEG4 := hid_of hsegW
  clear hFS hsegW hw4 hP d8 HWA HWB HWC HR1 HR2 HR3 HV HFR HSEG hv1 hv2 hv3
  go_upto_block 2 with fail
  have hst : StF g bE R c0.nl a c0 w P (ln.length + 6000000) (.slice (some ⟨lb, lo, none⟩) n cap) u7 w4 := by
    refine ⟨lb, lo, n, cap, [], ln, _, [], (c.nl : Int), rfl, hnc, HLN.out, HSEG4.out, HFS.out.1, HFS.out.2, rfl, .inl ⟨rfl, ?_⟩⟩
    have := HCA.out
    omega
  refine wp_block ?_
  refine wp_loop_rounds (ln.length + 6000000) ?_
  refine f_rounds (R := R) (nl0 := c0.nl) (a := a) HE.out ?_ (ln.length + 6000000) _ _ _ _ _ _ _ _ _ _ _ _ _ _ _ _ _ _ _ _ _ _ _ _ _ _ _ _ _ _ _ _ _ _ _ _ _ _ _ _ _ _ _ _ _ _ _ _ _ _ _ _ _ _ _ _ _ _ _ _ _ _ _ _ _ _ _ _ _ _ _ _ _ _ _ _ _ _ _ _ _ _ _ _ _ _ _ _ _ _ _ _ _ _ _ _ _ _ _ _ _ _ _ _ _ _ _ _ _ _ _ _ _ _ _ _ _ _ _ _ _ _ _ _ _ _ _ _ _ _ _ _ _ _ _ _ _ _ _ _ _ _ _ _ _ _ _ _ _ _ _ _ _ _ _ _ _ _ _ _ _ _ _ _ _ _ _ _ _ _ _ _ _ _ _ _ _ _ _ _ _ _ _ _ _ _ _ _ _ _ _ _ _ _ _ _ _ _ _ _ _ _ _ _ _ _ _ _ _ _ _ _ _ _ _ _ _ _ _ _ _ _ _ _ _ _ _ _ _ _ _ _ _ _ _ _ _ _ _ _ _ _ _ _ _ _ _ _ _ _ _ _ _ _ _ _ _ _ _ _ _ _ _ _ _ _ _ _ _ _ _ _ _ _ _ _ _ _ _ _ _ _ _ _ _ _ _ _ _ _ _ _ _ _ _ _ _ _ _ _ _ _ _ _ _ _ _ _ _ _ _ _ _ _ _ _ _ _ _ _ _ _ _ _ _ _ _ _ _ _ _ _ _ _ _ _ _ _ _ _ _ _ _ _ _ _ _ _ _ _ _ _ _ _ _ _ _ _ hst
  intro u6 u12 u13 u14 u15 u16 u17 u18 u19 u129 u130 u131 u132 u133 u134 u135 u136 u137 u138 u139 u140 u141 u142 u143 u144 u145 u146 u147 u148 u149 u150 u151 u152 u153 u154 u155 u156 u157 u158 u159 u160 u161 u162 u163 u164 u165 u166 u167 u168 u169 u170 u171 u172 u173 u174 u175 u176 u177 u178 u179 u180 u181 u182 u183 u184 u185 u186 u187 u188 u189 u190 u191 u192 u193 u194 u195 u196 u197 u198 u199 u200 u201 u202 u203 u204 u205 u206 u207 u208 u209 u210 u211 u212 u213 u214 u215 u216 u217 u218 u219 u220 u221 u222 u223 u224 u225 u226 u227 u228 u229 u230 u231 u232 u233 u234 u235 u236 u237 u238 u239 u240 u241 u242 u243 u244 u245 u246 u247 u248 u249 u250 u251 u252 u253 u254 u255 u256 u257 u258 u259 u260 u261 u262 u263 u264 u265 u266 u267 u268 u269 u270 u271 u272 u273 u274 u275 u276 u277 u278 u279 u280 u281 u282 u283 u284 u285 u286 u287 u288 u289 u290 u291 u292 u293 u294 u295 u296 u297 u298 u299 u300 u301 u302 u303 u304 u305 u306 u307 u308 u309 u310 u311 u312 u313 u314 u315 u316 u317 u318 u319 u320 u321 u322 u323 u324 u325 u326 u327 u328 u329 u330 u331 u332 u333 u334 u335 u336 u337 u338 u339 u340 u341 u342 u343 u344 u345 u346 u347 u348 u349 u350 u351 u352 u353 u354 u355 u356 u357 u358 u359 u360 u361 u362 u363 u364 u365 u366 u367 u368 u369 u370 u371 u372 u373 u374 u375 u376 u377 u378 u379 u380 u381 u382 u383 u384 u385 u386 u387 u388 u389 u390 u391 u392 u393 u394 u395 u396 u397 u398 u399 u400 u401 u402 u403 u404 u405 u406 u407 u408 u409 u410 u411 u412 u413 u414 u415 u416 u417 u418 u419 u420 u421 u422 u423 u424 u425 u426 u427 u428 u429 u430 u431 u432 u433 u434 u435 u436 u437 u438 u439 u440 u441 u442 u443 u444 u445 u446 u447 u448 u449 u450 u451 u452 u453 u454 u455 u456 u457 u458 u459 u460 u461 u462 u463 u464 u465 u466 u467 u468 u469 u470 u471 u472 u473 u474 u475 v7 v8 wr hend
  obtain ⟨lbE, plE, flds, extra, c', ps', hfx, hfl, hres⟩ := hend
  have HFS' := hid_of hfx
  have HRES := hid_of hres
  clear hfx hres HFS HSEG4 hst
  go_upto_region 82 with fail
  go_cut [477] from 476 to 476 (fun v477 wr' => wr' = wr ∧ ((v8 = .nilIface ∧ v477 = .bool true) ∨ ((∃ q, v8 = .iface 108 q) ∧ v477 = .bool false)))
  case first =>
    rcases HRES.out with ⟨-, h2, -⟩ | ⟨-, h2, -⟩ | ⟨-, q, h2⟩
    · subst h2
      go_wp2_with fail
      go_meet
      exact ⟨rfl, .inl ⟨by trivial, rfl⟩⟩
    · subst h2
      go_wp2_with fail
      go_meet
      exact ⟨rfl, .inl ⟨by trivial, rfl⟩⟩
    · subst h2
      go_wp2_with fail
      go_meet
      exact ⟨rfl, .inr ⟨⟨q, rfl⟩, rfl⟩⟩
  case rest =>
  obtain ⟨hw, htest⟩ := hcut
  have hw' := hw.symm
  subst hw'
  clear hw
  have HT := hid_of htest
  clear htest
  go_upto_if 477 with fail
  go_cut [8] from 478 to 478 (fun v8' wr' => wr' = wr ∧ ((v8' = .nilIface ∧ extra = [] ∧ flds ≠ [] ∧ ∃ s rest r a b, Src g (tripA bE) s rest r wr ∧ R = .ok flds a b s rest ∧ c'.nl = c0.nl + b ∧ c0.nl + b + rest.length ≤ 1000000 ∧ ∃ col t, ps' = .int .i64 ((c0.nl + a : Nat) : Int) :: .int .i64 col :: t) ∨ (R = .err ∧ ErrQ g bE v8' wr)))
  case first =>
    rcases HRES.out with ⟨h1, h2, h3⟩ | ⟨h1, h2, N, h3, h4, h5⟩ | ⟨h1, q, h2⟩
    · subst h1 h2
      have h477 : u477 = .bool true := by
        rcases HT.out with ⟨-, h⟩ | ⟨⟨q, h⟩, -⟩
        · exact h
        · cases h
      subst h477
      have H3 := hid_of h3
      clear h3
      go_wp2_with fail
      go_meet
      exact ⟨rfl, .inl ⟨rfl, H3.out⟩⟩
    · have h3' : v7 = .iface 99 (.pointer (some ⟨N, 0, none⟩)) := h3
      subst h2 h3'
      have h477 : u477 = .bool true := by
        rcases HT.out with ⟨-, h⟩ | ⟨⟨q, h⟩, -⟩
        · exact h
        · cases h
      subst h477
      go_wp2_with fail
      go_meet
      exact ⟨rfl, .inr ⟨h1, _, _, rfl, fun _ => .inr ⟨N, rfl, h4, h5⟩⟩⟩
    · have h477 : u477 = .bool false := by
        rcases HT.out with ⟨h, -⟩ | ⟨-, h⟩
        · rw [h2] at h; cases h
        · exact h
      subst h2 h477
      go_wp2_with fail
      go_meet
      exact ⟨rfl, .inr ⟨h1, _, _, rfl, fun h => by cases h⟩⟩
  case rest =>
  obtain ⟨hw, hres⟩ := hcut
  have hw' := hw.symm
  subst hw'
  clear hw HRES
  have HRES := hid_of hres
  clear hres
  have d11 := HFS'.out.rows.csv.cell (i := 11) rfl
  have d12 := HFS'.out.rows.csv.cell (i := 12) rfl
  have hcv := rbuf_string HFS'.out.rows.rbuf
  obtain ⟨kf, hkf⟩ : ∃ kf, flds.length = kf := ⟨_, rfl⟩
  have hixo := HFS'.out.rows.idx
  rw [ixsOf_length, hkf] at hixo
  obtain ⟨S, hSS⟩ : ∃ S, flds.flatten ++ extra = S := ⟨_, rfl⟩
  rw [hSS] at hcv
  have hkb : kf ≤ 1000000000 := by omega
  obtain ⟨pi, ci, hie, hpi⟩ : ∃ pi ci, c'.idx = .slice pi kf ci ∧ (1 ≤ kf → ∃ bi, pi = some ⟨bi, 0, none⟩) := by
    rcases hixo.2 with ⟨h1, h2⟩ | ⟨b, cp, cur, h1, -⟩
    · exact ⟨none, 0, by rw [h1, h2], fun h => by omega⟩
    · exact ⟨_, cp, h1, fun _ => ⟨b, rfl⟩⟩
  rw [hie] at d12
  have HIX := hid_of hixo
  have HKF := hid_of hkf
  clear hixo hkf
  go_upto_region 85 with fail
  obtain ⟨nL, xL, hLst⟩ := HFS'.out.rows.last
  rw [HFS'.out.hlast] at hLst
  have hLsh : (c0.last = .slice none 0 0) ∨ ∃ b cp, c0.last = .slice (some ⟨b, 0, none⟩) nL cp ∧ nL ≤ cp := by
    rcases hLst.2 with ⟨h1, -⟩ | ⟨b, cp, cur, h1, -, -, h4, -⟩
    · exact .inl h1
    · exact .inr ⟨b, cp, h1, h4⟩
  have HLST := hid_of hLst
  clear hLst
  go_cut [1] from 484 to 485 (fun v1 wr' => wr' = wr ∧ ∃ p cp, v1 = .slice p 0 cp ∧ ((p = none ∧ cp = 0) ∨ ∃ b, p = some ⟨b, 0, none⟩ ∧ c0.last = .slice (some ⟨b, 0, none⟩) nL cp))
  case first =>
    rcases hLsh with h1 | ⟨b, cp, h1, h2⟩
    · rw [h1]
      go_wp2_with fail
      go_meet
      exact ⟨rfl, none, 0, rfl, .inl ⟨rfl, rfl⟩⟩
    · rw [h1]
      go_wp2_with fail
      go_meet
      exact ⟨rfl, _, cp, rfl, .inr ⟨b, rfl, h1⟩⟩
  case rest =>
  obtain ⟨hw, p, cp, rfl, hp⟩ := hcut
  have hw' := hw.symm
  subst hw'
  clear hw hLsh
  have hmk := make_strs wr kf hkb
  have HP := hid_of hp
  clear hp
  by_cases hk0 : kf = 0
  · subst hk0
    have hRe : Hid (R = .err ∧ ErrQ g bE u8 wr) := by
      show _ ∧ _
      rcases HRES.out with ⟨-, -, h, -⟩ | h
      · exact absurd (List.eq_nil_of_length_eq_zero HKF.out) h
      · exact h
    have g2 := HFS'.out.rows.csv.cell (i := 2) rfl
    have hdec : decide ((cp : Int) < 0) = false := by simp
    have hcp0 : (0 : Int) ≤ (cp : Int) := by omega
    clear hmk hpi
    rcases HP.out with ⟨rfl, rfl⟩ | ⟨b, rfl, hl⟩
    · go_upto_region 91 with fail
      go_loopg [21, 22, 23, 512] 1 (fun f v21 v22 v23 v512 wr2 => v512 = .int .i64 0 ∧ 0 < f ∧ wr2 = wr)
      case atStart => exact ⟨rfl, by omega, rfl⟩
      case round =>
        obtain ⟨rfl, hf1, rfl⟩ := hrel
        go_wp2_with fail
        go_ret2
        exact .inl ⟨hRe.out.1, _, _, _, _, rfl, hRe.out.2, HFS'.out.frm.only, c', HFS'.out.rows.csv⟩
    · clear hl
      go_upto_region 91 with fail
      go_loopg [21, 22, 23, 512] 1 (fun f v21 v22 v23 v512 wr2 => v512 = .int .i64 0 ∧ 0 < f ∧ wr2 = wr)
      case atStart => exact ⟨rfl, by omega, rfl⟩
      case round =>
        obtain ⟨rfl, hf1, rfl⟩ := hrel
        go_wp2_with fail
        go_ret2
        exact .inl ⟨hRe.out.1, _, _, _, _, rfl, hRe.out.2, HFS'.out.frm.only, c', HFS'.out.rows.csv⟩
  obtain ⟨bi, rfl⟩ := hpi (by omega)
  go_upto_if 493 with fail
  go_cut [1] from 494 to 499 (fun v1 wr' => ∃ bd cd m ys, v1 = .slice (some ⟨bd, 0, none⟩) m cd ∧ m ≤ cd ∧ kf ≤ cd ∧ wr'.ownsRow (g + 6) 9 1 (.slice (some ⟨bd, 0, none⟩) kf cd) kf ys ∧ Only (fun _ => False) wr wr' ∧ (c0.last.ownBlock = some bd ∨ wr.heap.size ≤ bd))
  case first =>
    by_cases hc : cp < kf
    · have hc' : (cp : Int) < (kf : Int) := by omega
      go_wp2_with fail
      go_meet
      obtain ⟨ys, hys⟩ := made_owns (w := wr) (base := g + 6) (k := kf) HFS'.out.rows.size hkb
      exact ⟨wr.heap.size, kf, kf, ys, rfl, Nat.le_refl _, Nat.le_refl _, hys, (Only.refl _ _).alloc _, .inr (Nat.le_refl _)⟩
    · have hc' : decide ((cp : Int) < (kf : Int)) = false := by simp; omega
      have hc'' : (kf : Int) ≤ (cp : Int) := by omega
      rcases HP.out with ⟨-, rfl⟩ | ⟨b, rfl, hl⟩
      · omega
      · go_wp2_with fail
        go_meet
        have hh := HLST.out
        rw [hl] at hh
        obtain ⟨ys, hys⟩ := own_first hh (k := kf) (by omega)
        exact ⟨b, cp, 0, ys, rfl, by omega, by omega, hys, Only.refl _ _, .inl (by rw [hl]; rfl)⟩
  case rest =>
  obtain ⟨bd, cd, m, ys, rfl, hmc, hkc, hys, hoF, hbd⟩ := hcut
  have hcsvc := hoF.sat HFS'.out.rows.csv (fun h => h)
  have g12 := hcsvc.cell (i := 12) rfl
  have g2 := hcsvc.cell (i := 2) rfl
  rw [hie] at g12
  have i1 : (0 : Int) ≤ (kf : Int) := by omega
  have i2 : (kf : Int) ≤ (cd : Int) := by omega
  have HYS := hid_of hys
  have HOF := hid_of hoF
  have HBD := hid_of hbd
  have HCS := hid_of hcsvc
  clear hys hoF hbd hcsvc d11 d12 hcv hmk HP
  go_upto_region 91 with fail
  have hyl : ys.length = kf := by have := HYS.out.1; omega
  have hne : bi ≠ bd := by
    intro h
    have h1 : c'.idx.ownBlock = some bi := by rw [hie]; rfl
    have hx := ownsRow_only HIX.out HOF.out (fun _ _ h => h)
    exact apart_of hx HYS.out (by decide) bi h1 (by rw [h]; rfl)
  go_loopg [21, 22, 23, 512] (kf + 1) (fun f v21 v22 v23 v512 wr2 => ∃ i, v512 = .int .i64 ((i : Nat) : Int) ∧ i ≤ kf ∧ kf < f + i ∧ v21 = .int .i64 (((flds.take i).flatten.length : Nat) : Int) ∧ Hid (wr2.ownsRow (g + 6) 9 1 (.slice (some ⟨bd, 0, none⟩) kf cd) kf (strC (flds.take i) ++ ys.drop i)) ∧ Hid (Only (fun k => k = bd) wc wr2))
  case atStart => exact ⟨0, rfl, by omega, by omega, rfl, HYS, Only.refl _ _⟩
  case round =>
    obtain ⟨i, rfl, hik, hif, rfl, how, hob⟩ := hrel
    obtain ⟨f, rfl⟩ : ∃ f, gk = f + 1 := ⟨gk - 1, by omega⟩
    by_cases hlt : i < kf
    · have hlt' : i < flds.length := by rw [HKF.out]; exact hlt
      have hx := ownsRow_only (ownsRow_only HIX.out HOF.out (fun _ _ h => h)) hob.out (fun k hk hk' => by rw [hie] at hk; simp only [Value.ownBlock, Option.some.injEq] at hk; omega)
      rw [hie] at hx
      have hci := hx.cellAt i (by omega)
      rw [ixsOf_get flds i hlt'] at hci
      obtain ⟨A, hA⟩ : ∃ A, (flds.take i).flatten.length = A := ⟨_, rfl⟩
      obtain ⟨Z, hZ⟩ : ∃ Z, (flds.take (i + 1)).flatten.length = Z := ⟨_, rfl⟩
      have hAZ : A ≤ Z := by rw [← hA, ← hZ, flat_take flds i hlt', List.length_append]; omega
      have hZS : Z ≤ S.length := by rw [← hZ, ← hSS, List.length_append]; have := flat_le flds (i + 1); omega
      have hfld := flat_field2 flds extra i hlt'
      rw [hA, hZ, hSS] at hfld
      rw [hZ] at hci
      rw [hA]
      have hcd := how.out.cellAt i (by omega)
      have hfd := how.out.frozenAt i
      have hge : ∃ v, (strC (flds.take i) ++ ys.drop i)[i]? = some v := by
        have hl : (strC (flds.take i) ++ ys.drop i).length = kf := by have := how.out.1; omega
        exact ⟨_, List.getElem?_eq_getElem (by omega)⟩
      obtain ⟨vold, hge⟩ := hge
      rw [hge] at hcd
      have z0 : (0 : Int) ≤ (A : Int) := by omega
      have z1 : (A : Int) ≤ (Z : Int) := by omega
      have z2 : (Z : Int) ≤ (S.length : Int) := by omega
      have z3 : (i : Int) < (kf : Int) := by omega
      have HFD := hid_of hfld
      have HZ := hid_of hZ
      clear hfld hZ hA hx hge HYS
      go_wp2_with fail
      go_roundg f
      case measure => omega
      case rel =>
        refine ⟨i + 1, rfl, by omega, by omega, by rw [HZ.out], ?_, hob.out.setCell (.inl rfl) _⟩
        show World.ownsRow _ _ _ _ _ _ _
        rw [HFD.out]
        have h9 := (how.out.stored i (.string (str flds[i]))).1
        rw [strC_set flds ys i hlt' (by rw [hyl, HKF.out])] at h9
        exact h9
    · have hik' : i = kf := by omega
      subst hik'
      have hbd6 := (HYS.out.lt bd rfl).1
      have hcs2 := hob.out.sat HCS.out (by omega)
      have g2' := hcs2.cell (i := 2) rfl
      have HCS2 := hid_of hcs2
      clear hcs2
      go_wp2_with fail
      go_ret2
      have hfull : strC (flds.take i) ++ ys.drop i = strC flds := by
        rw [List.take_of_length_le (by rw [HKF.out]; exact Nat.le_refl _), List.drop_eq_nil_of_le (by omega), List.append_nil]
      have hO : Only (ownR g c0) w wr := (HFS'.out.frm.only.trans HOF.out (fun _ _ h => h.elim)).trans hob.out (fun k hk h => by
        subst h
        rcases HBD.out with h | h
        · exact .inr (.inr (.inr (.inr (.inr (.inr h)))))
        · have := HFS'.out.frm.only.size; omega)
      rcases HRES.out with ⟨hu, hex, hnil, s9, rest9, r9, a9, b9, hsr9, hR9, hnl9, hb9, hps9⟩ | ⟨hR9, hErr⟩
      · have hlast := last_lives HLST.out HOF.out HYS.out hob.out how.out HBD.out
        rw [← HFS'.out.hlast] at hlast
        refine .inr ⟨flds, a9, b9, s9, rest9, r9, c', flds.flatten ++ extra, ixsOf flds, ps', bd, cd, hR9, by rw [hu, HKF.out]; rfl, ?_, ?_, ⟨hO, HFS'.out.frm.raw, HFS'.out.frm.rbuf, HFS'.out.frm.idx, HFS'.out.frm.pos, HFS'.out.frm.last⟩, HFS'.out.hlast, hnl9, by rw [hnl9]; exact hb9, ?_, ?_, hps9⟩
        · exact (hsr9.only HOF.out (fun _ _ h => h)).only hob.out (fun k hk h => by unfold own at hk; omega)
        · exact (HFS'.out.rows.only HOF.out (fun _ _ h => h)).lastRow hob.out HYS.out hlast
        · rw [HKF.out]
          have h9 := how.out
          rw [hfull] at h9
          exact h9
        · rcases HBD.out with h | h
          · exact .inl (by rw [h]; rfl)
          · exact .inr ⟨bd, rfl, Nat.le_trans HFS'.out.frm.only.size h⟩
      · exact .inl ⟨hR9, _, _, _, _, rfl, (hErr.only HOF.out).only hob.out, hO, c', HCS2.out⟩
end Go.Proofs.Qxb6614395aFmt
