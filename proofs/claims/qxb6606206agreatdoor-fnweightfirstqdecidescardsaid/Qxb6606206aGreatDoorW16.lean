import Derived.Test.Qxb6606206aGreatDoorW15
set_option linter.unusedSimpArgs false
set_option linter.unusedVariables false
namespace Go.Proofs.Qxb6606206aGreatDoor
open Go Go.RowKit
attribute [local go_sem high] shl_u64_52
attribute [local go_sem] shlv_1 shlv_2

set_option maxHeartbeats 25600000 in
set_option maxRecDepth 20000 in
theorem fb_main (g B pb po pc blk o cap : Nat) (hB : B ≤ g) (s : Dc) (hs : s.Ok) (h1 : 0 < s.nd) (hd : s.dp ≤ 310) (hd' : -330 ≤ s.dp) (w : World) (h : DAt w g s) (hF : FT w B pb po pc blk o cap) :
    Calls Tryz.prog 79 #[.pointer (some ⟨g, 0, none⟩), .pointer (some ⟨10, 0, none⟩)] w (FBP B w (fbR s)) := by
  have hA := fb1_ok 1000 s 0 hs h1 (by unfold mu1; split <;> omega) (by omega) hd
  obtain ⟨A, hA'⟩ : ∃ A, fb1 1000 s 0 = A := ⟨_, rfl⟩
  rw [hA'] at hA
  obtain ⟨s1, e1⟩ := A
  simp only [] at hA
  obtain ⟨a1, a2, a3, a4, a5, a6⟩ := hA
  have hC := fb2_ok 10100 s1 e1 a1 a2 (by unfold mu2; split <;> omega) a3 (by omega)
  obtain ⟨C, hC'⟩ : ∃ C, fb2 10100 s1 e1 = C := ⟨_, rfl⟩
  rw [hC'] at hC
  obtain ⟨s2, e2⟩ := C
  simp only [] at hC
  obtain ⟨b1, b2, b3, b4, b5, b6⟩ := hC
  obtain ⟨R, hR⟩ : ∃ R, fbR s = R := ⟨_, rfl⟩
  have H0 : Hid (fbT s2 (e2 - 1) = R) := by
    show _ = _
    rw [← hR, fbR, if_neg (by omega), if_neg (by omega), if_neg (by omega), hA']
    simp only []
    rw [hC']
  rw [hR]
  have HA := hid_of hA'
  have HC := hid_of hC'
  have H := hid_of h
  have HF := hid_of hF
  have HS := hid_of hs
  have HS1 := hid_of a1
  have HS2 := hid_of b1
  have c0 := h.nd
  have c1 := h.dp
  have hn0 : ((s.nd : Int) == 0) = false := by rw [beq_eq_false_iff_ne]; omega
  clear hR hA' hC' h hF hs a1 b1
  go_enter Tryz.func79, Tryz.ntmps79
  go_wp2_with fail
  refine wp_scope_two rfl rfl ?_
  go_upto_block 0 with fail
  go_cut [6, 8] from 35 to 60 (fun v6 v8 wr => v6 = .int .i64 e1 ∧ DAt wr g s1 ∧ Below B w wr)
  case first =>
    clear HC H0 c0 c1
    go_wp2_with fail
    go_loopg [6] 1000 (fun f v6 wr => ∃ (s' : Dc) (e : Int), v6 = .int .i64 e ∧ DAt wr g s' ∧ Below B w wr ∧ s'.Ok ∧ 0 < s'.nd ∧ mu1 s' < f ∧ f ≤ 1000 ∧ -999 ≤ s'.dp ∧ s'.dp ≤ 310 ∧ 0 ≤ e ∧ e ≤ 27 * (1000 - (f : Int)) ∧ Hid (fb1 f s' e = (s1, e1)))
    case atStart => exact ⟨s, 0, rfl, H.out, Below.refl _ _, HS.out, h1, by unfold mu1; split <;> omega, by omega, by omega, hd, by omega, by omega, HA⟩
    case round =>
      obtain ⟨s', e, rfl, hD0, hb, hok0, hnd, hmu0, hf, hdp0, hdp1, he0, he1, hq⟩ := hrel
      have hD := hid_of hD0
      have hbb := hid_of hb
      have hok := hid_of hok0
      have hmu := hid_of hmu0
      have hFr := HF.out.below hb
      have k1 := hD0.dp
      have tp := hFr.p
      have hf1 : 1 ≤ gk := by omega
      clear hok0 hmu0 hD0 hb HA H
      obtain ⟨f, rfl⟩ : ∃ f, gk = f + 1 := ⟨gk - 1, by omega⟩
      by_cases hpos : 0 < s'.dp
      · obtain ⟨i, hi⟩ : ∃ i : Nat, s'.dp = i := ⟨s'.dp.toNat, by omega⟩
        have hin : s'.dp.toNat = i := by omega
        have st := fb1_step hok.out hnd hpos
        have hp := pw_le i
        rw [hin] at st
        have hst : Hid (fb1 (f + 1) s' e = fb1 f (s'.rshift (pw i)) (e + pw i)) := by
          show _ = _
          rw [fb1, if_pos hpos, hin]
        have cR := fun w' (h : DAt w' g s') => Shift_right g B hB (pw i) (by omega) (by omega) s' hok.out hnd (by omega) (by omega) w' h
        rw [Dc.shR_stop (show ¬ 60 < pw i by omega)] at cR
        have ST := hid_of st
        have HPOS := hid_of hpos
        have hip : (i : Int) > 0 := by omega
        rw [hi] at k1
        by_cases h9 : 9 ≤ i
        · rw [pw_big h9] at cR hst ST
          have cR' : ∀ w' (h : DAt w' g s'), Calls Tryz.prog 100 #[.pointer (some ⟨g, 0, none⟩), .int .i64 (-27)] w' (DPost B g w' (s'.rshift 27)) := cR
          generalize s'.rshift 27 = s'' at cR' hst ST
          clear st cR hin hi hpos
          have h9' : (i : Int) ≥ 9 := by omega
          go_wp2_with fail
          go_quiet (fail)
          go_wp2_with (go_at_call 100; go_fit (cR' _ (by exact hD.out)); rintro ee w' ⟨rfl, hD9, hb9⟩)
          go_roundg f
          case measure => omega
          case rel =>
            have hmu2 := hmu.out
            have ST2 := ST.out
            have hpp := HPOS.out
            refine ⟨s'', e + 27, rfl, hD9, (below_drewN hbb.out _).trans hb9, ST2.1, ST2.2.1, by omega, by omega, by omega, by omega, by omega, by omega, ?_⟩
            show _ = _
            have := hst.out
            rw [← hq.out, this]; rfl
        · have hi9 : i < 9 := by omega
          have tr0 := hFr.prow i hi9
          obtain ⟨P, hP⟩ : ∃ P, pw i = P := ⟨_, rfl⟩
          rw [hP] at cR hst ST tr0 hp
          generalize s'.rshift P = s'' at cR hst ST
          clear st hin hi hpos hP
          have h9' : ¬ ((i : Int) ≥ 9) := by omega
          have hilt : (i : Int) < 9 := by omega
          obtain ⟨hp1, hp2, -⟩ := hp
          go_wp2_with fail
          go_quiet (fail)
          go_wp2_with fail
          go_quiet (fail)
          go_wp2_with (go_at_call 100; go_fit (cR _ (by exact hD.out)); rintro ee w' ⟨rfl, hD9, hb9⟩)
          go_roundg f
          case measure => omega
          case rel =>
            have hmu2 := hmu.out
            have ST2 := ST.out
            have hpp := HPOS.out
            refine ⟨s'', e + P, rfl, hD9, (by repeat (first | exact hbb.out | refine below_drewN ?_ _) : Below B w _).trans hb9, ST2.1, ST2.2.1, by omega, by omega, by omega, by omega, by omega, by omega, ?_⟩
            show _ = _
            rw [← hq.out, hst.out]
      · have he : (s', e) = (s1, e1) := by rw [← hq.out, fb1, if_neg hpos]
        simp only [Prod.mk.injEq] at he
        obtain ⟨rfl, rfl⟩ := he
        go_wp2_with fail
        go_meet
        exact ⟨rfl, hD.out, hbb.out⟩
  case rest =>
  obtain ⟨rfl, hD1, hb1⟩ := hcut
  have HD1 := hid_of hD1
  have HB1 := hid_of hb1
  clear H HA c0 c1 hD1 hb1
  go_upto_block 2 with fail
  go_cut [6, 9] from 61 to 102 (fun v6 v9 wr => v6 = .int .i64 e2 ∧ DAt wr g s2 ∧ Below B w wr)
  case first =>
    clear H0
    go_wp2_with fail
    go_loopg [6] 10100 (fun f v6 wr => ∃ (s' : Dc) (e : Int), v6 = .int .i64 e ∧ DAt wr g s' ∧ Below B w wr ∧ s'.Ok ∧ 0 < s'.nd ∧ mu2 s' < f ∧ f ≤ 10100 ∧ -999 ≤ s'.dp ∧ s'.dp ≤ 20 ∧ e ≤ e1 ∧ e1 - 27 * (10100 - (f : Int)) ≤ e ∧ Hid (fb2 f s' e = (s2, e2)))
    case atStart => exact ⟨s1, e1, rfl, HD1.out, HB1.out, HS1.out, a2, by unfold mu2; split <;> omega, by omega, by omega, by omega, by omega, by omega, HC⟩
    case round =>
      obtain ⟨s', e, rfl, hD0, hb, hok0, hnd, hmu0, hf, hdp0, hdp1, he0, he1, hq⟩ := hrel
      have hD := hid_of hD0
      have hbb := hid_of hb
      have hok := hid_of hok0
      have hmu := hid_of hmu0
      have hFr := HF.out.below hb
      have k1 := hD0.dp
      have kd := hD0.dig (i := 0) (by omega)
      have tp := hFr.p
      have hg := hok0.dig 0 hnd
      unfold Dc.Dig at hg
      obtain ⟨hg1, hg2⟩ := hg
      have hf1 : 1 ≤ gk := by omega
      have cLl := fun (k : Nat) (hk1 : 1 ≤ k) (hk : k ≤ 60) w' (h : DAt w' g s') (hL : LCT w' blk o cap) => Shift_left g B hB k hk1 hk s' hok.out hnd (by omega) (by omega) w' h blk o cap HF.out.b2 HF.out.b3 hL
      have HLC := hid_of hFr.lc
      clear hok0 hmu0 hD0 hb HC HD1 HB1
      obtain ⟨f, rfl⟩ : ∃ f, gk = f + 1 := ⟨gk - 1, by omega⟩
      by_cases hpos : gon s'
      · have hdp2 : s'.dp ≤ 0 := by rcases hpos with h | h <;> omega
        obtain ⟨i, hi⟩ : ∃ i : Nat, s'.dp = -(i : Int) := ⟨(-s'.dp).toNat, by omega⟩
        have hin : (-s'.dp).toNat = i := by omega
        have st := fb2_step hok.out hnd hpos
        have hp := pw_le i
        rw [hin] at st
        have hst : Hid (fb2 (f + 1) s' e = fb2 f (s'.lsh (pw i)) (e - pw i)) := by
          show _ = _
          rw [fb2, if_pos hpos, hin]
        have cR := cLl (pw i) (by omega) (by omega)
        have ST := hid_of st
        have HPOS := hid_of hpos
        have hgon : (0 < i) ∨ (i = 0 ∧ s'.d 0 < 53) := by rcases hpos with h | h <;> omega
        have HDPI := hid_of hi
        rw [hi] at k1
        have hnn : - -(i : Int) = (i : Int) := by omega
        have hi999 : i ≤ 999 := by omega
        by_cases h9 : 9 ≤ i
        · rw [pw_big h9] at cR hst ST
          have cR' : ∀ w' (h : DAt w' g s') (hL : LCT w' blk o cap), Calls Tryz.prog 100 #[.pointer (some ⟨g, 0, none⟩), .int .i64 27] w' (DPost B g w' (s'.lsh 27)) := cR
          generalize s'.lsh 27 = s'' at cR' hst ST
          clear st cR hin hi hpos cLl hgon
          have h9' : (i : Int) ≥ 9 := by omega
          have hneg : -(i : Int) < 0 := by omega
          go_wp2_with fail
          go_quiet (fail)
          go_wp2_with (go_at_call 100; go_fit (cR' _ (by exact hD.out) (by first | exact HLC.out | exact HLC.out.drewN _ | exact (HLC.out.drewN _).drewN _)); rintro ee w' ⟨rfl, hD9, hb9⟩)
          go_roundg f
          case measure => omega
          case rel =>
            have hmu2 := hmu.out
            have ST2 := ST.out
            have hdi := HDPI.out
            refine ⟨s'', e - 27, rfl, hD9, (by repeat (first | exact hbb.out | refine below_drewN ?_ _) : Below B w _).trans hb9, ST2.1, ST2.2.1, by omega, by omega, by omega, by omega, by omega, by omega, ?_⟩
            show _ = _
            have := hst.out
            rw [← hq.out, this]; rfl
        · have hi9 : i < 9 := by omega
          have tr0 := hFr.prow i hi9
          obtain ⟨P, hP⟩ : ∃ P, pw i = P := ⟨_, rfl⟩
          rw [hP] at cR hst ST tr0 hp
          generalize s'.lsh P = s'' at cR hst ST
          clear st hin hi hpos hP cLl
          have h9' : ¬ ((i : Int) ≥ 9) := by omega
          have hilt : (i : Int) < 9 := by omega
          obtain ⟨hp1, hp2, -⟩ := hp
          rcases hgon with hi0 | ⟨rfl, hd5⟩
          · have hneg : -(i : Int) < 0 := by omega
            go_wp2_with fail
            go_quiet (fail)
            go_wp2_with fail
            go_quiet (fail)
            go_wp2_with (go_at_call 100; go_fit (cR _ (by exact hD.out) (by first | exact HLC.out | exact HLC.out.drewN _ | exact (HLC.out.drewN _).drewN _)); rintro ee w' ⟨rfl, hD9, hb9⟩)
            go_roundg f
            case measure => omega
            case rel =>
              have hmu2 := hmu.out
              have ST2 := ST.out
              have hdi := HDPI.out
              refine ⟨s'', e - P, rfl, hD9, (by repeat (first | exact hbb.out | refine below_drewN ?_ _) : Below B w _).trans hb9, ST2.1, ST2.2.1, by omega, by omega, by omega, by omega, by omega, by omega, ?_⟩
              show _ = _
              rw [← hq.out, hst.out]
          · have tr1 : wr.cell? ⟨pb, po, none⟩ = some (.int .i64 (P : Int)) := tr0
            have k1' : wr.cell? ⟨g, 801, none⟩ = some (.int .i64 0) := k1
            have hd5' : (s'.d 0 : Int) < 53 := by omega
            clear k1 tr0 h9 h9' hilt hi9 hnn
            go_wp2_with fail
            go_quiet (fail)
            go_wp2_with fail
            go_quiet (fail)
            go_wp2_with (go_at_call 100; go_fit (cR _ (by exact hD.out) (by first | exact HLC.out | exact HLC.out.drewN _ | exact (HLC.out.drewN _).drewN _)); rintro ee w' ⟨rfl, hD9, hb9⟩)
            go_roundg f
            case measure => omega
            case rel =>
              have hmu2 := hmu.out
              have ST2 := ST.out
              have hdi := HDPI.out
              refine ⟨s'', e - P, rfl, hD9, (by repeat (first | exact hbb.out | refine below_drewN ?_ _) : Below B w _).trans hb9, ST2.1, ST2.2.1, by omega, by omega, by omega, by omega, by omega, by omega, ?_⟩
              show _ = _
              rw [← hq.out, hst.out]
      · have he : (s', e) = (s2, e2) := by rw [← hq.out, fb2, if_neg hpos]
        simp only [Prod.mk.injEq] at he
        obtain ⟨rfl, rfl⟩ := he
        have hng1 : ¬ (s'.dp < 0) := fun h => hpos (.inl h)
        have HNG := hid_of hpos
        clear hpos cLl
        by_cases hz : s'.dp = 0
        · rw [hz] at k1
          have hd5 : ¬ ((s'.d 0 : Int) < 53) := fun h => HNG.out (.inr ⟨hz, by omega⟩)
          go_wp2_with fail
          go_meet
          exact ⟨rfl, hD.out, hbb.out⟩
        · have hz' : (s'.dp == 0) = false := beq_eq_false_iff_ne.2 hz
          go_wp2_with fail
          go_meet
          exact ⟨rfl, hD.out, hbb.out⟩
  case rest =>
  obtain ⟨rfl, hD2, hb2⟩ := hcut
  have HD2 := hid_of hD2
  have HB2 := hid_of hb2
  have hF2 := HF.out.below hb2
  have j0 := hF2.i0
  have j1 := hF2.i1
  have j2 := hF2.i2
  have HLC2 := hid_of hF2.lc
  clear HC HD1 HB1 hD2 hb2 hF2
  obtain ⟨e3, he3⟩ : ∃ e3, e3 = e2 - 1 := ⟨_, rfl⟩
  rw [← he3] at H0
  have he3a : -273000 ≤ e3 ∧ e3 ≤ 27000 := by omega
  obtain ⟨he3b, he3c⟩ := he3a
  obtain ⟨s4, hs4⟩ : ∃ s4 : Dc, s4 = if e3 < -1022 then Dc.shR (-1022 - e3).toNat s2 (-1022 - e3).toNat else s2 := ⟨_, rfl⟩
  obtain ⟨e4, he4⟩ : ∃ e4 : Int, e4 = if e3 < -1022 then -1022 else e3 := ⟨_, rfl⟩
  have H1 : Hid (fbM s4 e4 = R) := by
    show _ = _
    rw [← H0.out, fbT, hs4, he4]
    split <;> rfl
  have hok4 : s4.Ok ∧ 0 < s4.nd ∧ -900000000 ≤ s4.dp ∧ s4.dp ≤ 20 := by
    rw [hs4]
    split
    · have := Dc.shR_ok (-1022 - e3).toNat (-1022 - e3).toNat s2 (Nat.le_refl _) HS2.out b2 (by omega)
      refine ⟨this.1, this.2.1, by omega, by omega⟩
    · exact ⟨HS2.out, b2, by omega, by omega⟩
  have he4b : -1022 ≤ e4 ∧ e4 ≤ 27000 := by rw [he4]; split <;> omega
  obtain ⟨he4c, he4d⟩ := he4b
  have HE3 := hid_of he3
  have HS4 := hid_of hs4
  have HE4 := hid_of he4
  have HOK4 := hid_of hok4
  clear H0 hs4 he4 hok4
  have e2v : e2 - 1 = e3 := by omega
  clear he3
  go_upto_if 111 with fail
  go_cut [6, 10] from 105 to 125 (fun v6 v10 wr => v6 = .int .i64 e4 ∧ DAt wr g s4 ∧ Below B w wr)
  case first =>
    have x1 := HS4.out
    have x2 := HE4.out
    clear H1 HS4 HE4 HOK4
    by_cases hlo : e3 < -1022
    · rw [if_pos hlo] at x1 x2
      obtain ⟨n, hn⟩ : ∃ n : Nat, n = (-1022 - e3).toNat := ⟨_, rfl⟩
      have hnI : -1022 - e3 = (n : Int) := by omega
      rw [← hn] at x1
      have cR := fun w' (h : DAt w' g s2) => Shift_right g B hB n (by omega) (by omega) s2 HS2.out b2 (by omega) (by omega) w' h
      rw [← x1] at cR
      clear x1 hn
      subst x2
      go_wp2_with (go_at_call 100; go_fit (cR _ (by exact HD2.out)); rintro ee w' ⟨rfl, hD9, hb9⟩)
      go_meet
      exact ⟨by first | rfl | (congr 1; omega), hD9, HB2.out.trans hb9⟩
    · rw [if_neg hlo] at x1 x2
      subst x1 x2
      go_wp2_with fail
      go_meet
      exact ⟨rfl, HD2.out, HB2.out⟩
  case rest =>
  obtain ⟨rfl, hD4, hb4⟩ := hcut
  have HD4 := hid_of hD4
  have HB4 := hid_of hb4
  have cN := hD4.neg
  have hF4 := HF.out.below hb4
  have u0 := hF4.i0
  have u1 := hF4.i1
  have u2 := hF4.i2
  have HLC4 := hid_of hF4.lc
  clear HS4 HE4 HD2 HB2 HLC2 j0 j1 j2 hD4 hb4 hF4 HE3 e2v
  obtain ⟨k1, k2, k3, k4⟩ := HOK4.out
  have hl5 := Dc.lsh_ok s4 (k := 53) k1 k2 (by omega) (by omega)
  obtain ⟨m0, m1, cI⟩ := riF_gives (s4.lsh 53) hl5.1 (by omega)
  have cL5 := fun w' (h : DAt w' g s4) (hL : LCT w' blk o cap) => Shift_left g B hB 53 (by omega) (by omega) s4 k1 k2 (by omega) (by omega) w' h blk o cap HF.out.b2 HF.out.b3 hL
  have cL5' : ∀ w' (h : DAt w' g s4) (hL : LCT w' blk o cap), Calls Tryz.prog 100 #[.pointer (some ⟨g, 0, none⟩), .int .i64 53] w' (DPost B g w' (s4.lsh 53)) := cL5
  have H2 : Hid ((if e4 ≥ 1024 then (finB 0 1024 s4.neg, true)
    else if riF (s4.lsh 53) = 9007199254740992 then (if e4 + 1 ≥ 1024 then (finB 0 1024 (s4.lsh 53).neg, true) else fbO 4503599627370496 (e4 + 1) (s4.lsh 53).neg)
    else fbO (riF (s4.lsh 53)) e4 (s4.lsh 53).neg) = R) := H1
  generalize s4.lsh 53 = s5 at cL5' cI m0 m1 H2 hl5
  generalize riF s5 = M at cI m0 m1 H2
  clear H1 k1 cL5 hl5
  by_cases hov : e4 ≥ 1024
  · rw [if_pos hov] at H2
    have HR := H2
    clear H2
    have hov' : e4 + 1023 ≥ 2047 := by omega
    go_wp2_with fail
    go_quiet (fail)
    go_wp2_with fail
    go_step3
    simp only [Exit.then, Exit.go2]
    refine .inr ⟨by trivial, ?_⟩
    go_wp2_with fail
    go_quiet (fail)
    go_wp2_with fail
    go_step3
    cases hn : s4.neg with
    | true =>
      rw [hn] at cN
      rw [hn] at HR
      go_wp2_with fail
      go_quiet (fail)
      go_wp2_with fail
      go_quiet (fail)
      go_wp2_with fail
      simp only [Exit.noGoto_ret]
      go_ret2
      rw [← HR.out]
      exact ⟨rfl, by repeat (first | exact HB4.out | refine below_drewN ?_ _)⟩
    | false =>
      rw [hn] at cN
      rw [hn] at HR
      go_wp2_with fail
      go_quiet (fail)
      go_wp2_with fail
      simp only [Exit.noGoto_ret]
      go_ret2
      rw [← HR.out]
      exact ⟨rfl, by repeat (first | exact HB4.out | refine below_drewN ?_ _)⟩
  · rw [if_neg hov] at H2
    have hov' : ¬ (e4 + 1023 ≥ 2047) := by omega
    by_cases hM : M = 9007199254740992
    · rw [if_pos hM] at H2
      subst hM
      by_cases hov2 : e4 + 1 ≥ 1024
      · rw [if_pos hov2] at H2
        have HR := H2
        clear H2
        have hov2' : e4 + 1 + 1023 ≥ 2047 := by omega
        go_wp2_with fail
        go_quiet (fail)
        go_wp2_with (first
          | (go_at_call 100; go_fit (cL5' _ (by exact HD4.out) (by first | exact HLC4.out | exact HLC4.out.drewN _)); rintro ee w' ⟨rfl, hD9, hb9⟩; have hB9 : Below B w w' := (by repeat (first | exact HB4.out | refine below_drewN ?_ _) : Below B w _).trans hb9; have cN := hD9.neg; have hF9 := HF.out.below hB9; have u0 := hF9.i0; have u1 := hF9.i1; have u2 := hF9.i2; have HD9 := hid_of hD9; have HB9 := hid_of hB9; clear hD9 hb9 hB9 hF9)
          | (go_at_call 101; go_fit (cI g _ (by exact HD9.out)); rintro ee w'' ⟨rfl, hww⟩; have hww' := hww.symm; subst hww'; clear hww))
        go_quiet (fail)
        go_wp2_with fail
        go_step3
        simp only [Exit.then, Exit.go2]
        refine .inr ⟨by trivial, ?_⟩
        go_wp2_with fail
        go_quiet (fail)
        go_wp2_with fail
        go_step3
        cases hn : s5.neg with
        | true =>
          rw [hn] at cN
          rw [hn] at HR
          go_wp2_with fail
          go_quiet (fail)
          go_wp2_with fail
          go_quiet (fail)
          go_wp2_with fail
          simp only [Exit.noGoto_ret]
          go_ret2
          rw [← HR.out]
          exact ⟨rfl, by repeat (first | exact HB9.out | refine below_drewN ?_ _)⟩
        | false =>
          rw [hn] at cN
          rw [hn] at HR
          go_wp2_with fail
          go_quiet (fail)
          go_wp2_with fail
          simp only [Exit.noGoto_ret]
          go_ret2
          rw [← HR.out]
          exact ⟨rfl, by repeat (first | exact HB9.out | refine below_drewN ?_ _)⟩
      · rw [if_neg hov2] at H2
        have hz : (bits .and .u64 4503599627370496 4503599627370496 == 0) = false := by decide
        have HR : Hid ((finB 4503599627370496 (e4 + 1) s5.neg, false) = R) := by
          show _ = _
          rw [← H2.out, fbO, if_neg (by rw [hz]; simp)]
        clear H2
        have hov2' : ¬ (e4 + 1 + 1023 ≥ 2047) := by omega
        go_wp2_with fail
        go_quiet (fail)
        go_wp2_with (first
          | (go_at_call 100; go_fit (cL5' _ (by exact HD4.out) (by first | exact HLC4.out | exact HLC4.out.drewN _)); rintro ee w' ⟨rfl, hD9, hb9⟩; have hB9 : Below B w w' := (by repeat (first | exact HB4.out | refine below_drewN ?_ _) : Below B w _).trans hb9; have cN := hD9.neg; have hF9 := HF.out.below hB9; have u0 := hF9.i0; have u1 := hF9.i1; have u2 := hF9.i2; have HD9 := hid_of hD9; have HB9 := hid_of hB9; clear hD9 hb9 hB9 hF9)
          | (go_at_call 101; go_fit (cI g _ (by exact HD9.out)); rintro ee w'' ⟨rfl, hww⟩; have hww' := hww.symm; subst hww'; clear hww))
        go_quiet (fail)
        go_wp2_with fail
        go_step3
        simp only [Exit.then, Exit.go2]
        refine .inl ⟨by trivial, ?_⟩
        cases hn : s5.neg with
        | true =>
          rw [hn] at cN
          rw [hn] at HR
          go_wp2_with fail
          go_quiet (fail)
          go_wp2_with fail
          go_quiet (fail)
          go_wp2_with fail
          simp only [Exit.noGoto_ret]
          go_ret2
          rw [← HR.out]
          exact ⟨rfl, by repeat (first | exact HB9.out | refine below_drewN ?_ _)⟩
        | false =>
          rw [hn] at cN
          rw [hn] at HR
          go_wp2_with fail
          go_quiet (fail)
          go_wp2_with fail
          simp only [Exit.noGoto_ret]
          go_ret2
          rw [← HR.out]
          exact ⟨rfl, by repeat (first | exact HB9.out | refine below_drewN ?_ _)⟩
    · rw [if_neg hM] at H2
      have hM' : (M == 9007199254740992) = false := beq_eq_false_iff_ne.2 hM
      cases hz : (bits .and .u64 M 4503599627370496 == 0) with
      | true =>
        have HR : Hid ((finB M (-1023) s5.neg, false) = R) := by
          show _ = _
          rw [← H2.out, fbO, if_pos hz]
        clear H2
        go_wp2_with fail
        go_quiet (fail)
        go_wp2_with (first
          | (go_at_call 100; go_fit (cL5' _ (by exact HD4.out) (by first | exact HLC4.out | exact HLC4.out.drewN _)); rintro ee w' ⟨rfl, hD9, hb9⟩; have hB9 : Below B w w' := (by repeat (first | exact HB4.out | refine below_drewN ?_ _) : Below B w _).trans hb9; have cN := hD9.neg; have hF9 := HF.out.below hB9; have u0 := hF9.i0; have u1 := hF9.i1; have u2 := hF9.i2; have HD9 := hid_of hD9; have HB9 := hid_of hB9; clear hD9 hb9 hB9 hF9)
          | (go_at_call 101; go_fit (cI g _ (by exact HD9.out)); rintro ee w'' ⟨rfl, hww⟩; have hww' := hww.symm; subst hww'; clear hww))
        go_step3
        simp only [Exit.then, Exit.go2]
        refine .inl ⟨by trivial, ?_⟩
        cases hn : s5.neg with
        | true =>
          rw [hn] at cN
          rw [hn] at HR
          go_wp2_with fail
          go_quiet (fail)
          go_wp2_with fail
          go_quiet (fail)
          go_wp2_with fail
          simp only [Exit.noGoto_ret]
          go_ret2
          rw [← HR.out]
          exact ⟨rfl, by repeat (first | exact HB9.out | refine below_drewN ?_ _)⟩
        | false =>
          rw [hn] at cN
          rw [hn] at HR
          go_wp2_with fail
          go_quiet (fail)
          go_wp2_with fail
          simp only [Exit.noGoto_ret]
          go_ret2
          rw [← HR.out]
          exact ⟨rfl, by repeat (first | exact HB9.out | refine below_drewN ?_ _)⟩
      | false =>
        have HR : Hid ((finB M e4 s5.neg, false) = R) := by
          show _ = _
          rw [← H2.out, fbO, if_neg (by rw [hz]; simp)]
        clear H2
        go_wp2_with fail
        go_quiet (fail)
        go_wp2_with (first
          | (go_at_call 100; go_fit (cL5' _ (by exact HD4.out) (by first | exact HLC4.out | exact HLC4.out.drewN _)); rintro ee w' ⟨rfl, hD9, hb9⟩; have hB9 : Below B w w' := (by repeat (first | exact HB4.out | refine below_drewN ?_ _) : Below B w _).trans hb9; have cN := hD9.neg; have hF9 := HF.out.below hB9; have u0 := hF9.i0; have u1 := hF9.i1; have u2 := hF9.i2; have HD9 := hid_of hD9; have HB9 := hid_of hB9; clear hD9 hb9 hB9 hF9)
          | (go_at_call 101; go_fit (cI g _ (by exact HD9.out)); rintro ee w'' ⟨rfl, hww⟩; have hww' := hww.symm; subst hww'; clear hww))
        go_step3
        simp only [Exit.then, Exit.go2]
        refine .inl ⟨by trivial, ?_⟩
        cases hn : s5.neg with
        | true =>
          rw [hn] at cN
          rw [hn] at HR
          go_wp2_with fail
          go_quiet (fail)
          go_wp2_with fail
          go_quiet (fail)
          go_wp2_with fail
          simp only [Exit.noGoto_ret]
          go_ret2
          rw [← HR.out]
          exact ⟨rfl, by repeat (first | exact HB9.out | refine below_drewN ?_ _)⟩
        | false =>
          rw [hn] at cN
          rw [hn] at HR
          go_wp2_with fail
          go_quiet (fail)
          go_wp2_with fail
          simp only [Exit.noGoto_ret]
          go_ret2
          rw [← HR.out]
          exact ⟨rfl, by repeat (first | exact HB9.out | refine below_drewN ?_ _)⟩

theorem fb_calls (g B pb po pc blk o cap : Nat) (hB : B ≤ g) (s : Dc) (hs : s.Ok) (w : World) (h : DAt w g s) (hF : FT w B pb po pc blk o cap) :
    Calls Tryz.prog 79 #[.pointer (some ⟨g, 0, none⟩), .pointer (some ⟨10, 0, none⟩)] w (FBP B w (fbR s)) := by
  by_cases h0 : s.nd = 0
  · have := fb_zero g B pb po pc blk o cap hB s hs h0 w h hF
    rw [fbR, if_pos h0]
    exact this
  by_cases h1 : s.dp > 310
  · exact fb_big g B pb po pc blk o cap hB s (by omega) h1 w h hF
  by_cases h2 : s.dp < -330
  · exact fb_small g B pb po pc blk o cap hB s (by omega) h2 w h hF
  exact fb_main g B pb po pc blk o cap hB s hs (by omega) (by omega) (by omega) w h hF
end Go.Proofs.Qxb6606206aGreatDoor
