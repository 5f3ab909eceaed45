import Derived.Test.Qxb6606206aGreatDoorW7
import Derived.Test.Qxb6606206aGreatDoorL5
import Derived.Deep.CutBlock
set_option linter.unusedSimpArgs false
set_option linter.unusedVariables false
namespace Go.Proofs.Qxb6606206aGreatDoor
open Go Go.RowKit

set_option maxHeartbeats 6400000 in
set_option maxRecDepth 20000 in
theorem rshift_calls (g B : Nat) (hB : B ≤ g) (k : Nat) (hk : k ≤ 60) (s : Dc) (hs : s.Ok) (h1 : 0 < s.nd) (hdp : -1000000000 ≤ s.dp) (hdp' : s.dp ≤ 1000000000) (w : World) (h : DAt w g s) :
    Calls Tryz.prog 106 #[.pointer (some ⟨g, 0, none⟩), .int .u64 k] w (DPost B g w (s.rshift k)) := by
  have hA := Dc.rsA_ok s k hs h1 hk 1000 0 0 (by have := hs.le; omega) (.inl ⟨rfl, rfl⟩) (by omega) (by have := Nat.two_pow_pos k; omega) (by omega)
  obtain ⟨RA, hRA⟩ : ∃ RA, Dc.rsA s k 1000 0 0 = RA := ⟨_, rfl⟩
  rw [hRA] at hA
  obtain ⟨ra, na⟩ := RA
  simp only [] at hA
  obtain ⟨hA1, hA2, hA3, hA4, -⟩ := hA
  obtain ⟨s1, hs1⟩ : ∃ s1 : Dc, s1 = { s with dp := s.dp - ((ra : Int) - 1) } := ⟨_, rfl⟩
  have hC := Dc.rsC_ok k na ra hk 1000 s1 ra 0 na (by have := hs.le; rw [hs1]; simp only; omega) (by rw [hs1]; exact hs.le) (by rw [hs1]; exact fun i _ hi => hs.dig i hi) (by omega) hA2 (by intro i hi; omega) (by intro h; omega) (fun _ => rfl) (by omega)
  obtain ⟨RC, hRC⟩ : ∃ RC, Dc.rsC k 1000 s1 ra 0 na = RC := ⟨_, rfl⟩
  rw [hRC] at hC
  obtain ⟨s2, w2, n2⟩ := RC
  simp only [] at hC
  obtain ⟨hC1, -, -, hC2, hC3, -, -, hC4⟩ := hC
  obtain ⟨RD, hRD⟩ : ∃ RD, Dc.rsD k 100 s2 w2 n2 = RD := ⟨_, rfl⟩
  obtain ⟨s3, w3⟩ := RD
  obtain ⟨R, hR⟩ : ∃ R, s.rshift k = R := ⟨_, rfl⟩
  have HR : Hid (({ s3 with nd := w3 } : Dc).trim = R) := by
    show _ = _
    rw [← hR]
    unfold Dc.rshift
    simp only [hRA]
    rw [← hs1]
    simp only [hRC, hRD]
  rw [hR]
  have HRA := hid_of hRA
  have HRC := hid_of hRC
  have HRD := hid_of hRD
  have HS1 := hid_of hs1
  have H := hid_of h
  have HS := hid_of hs
  have hnd8 : s.nd ≤ 800 := hs.le
  have HK := hid_of hk
  obtain ⟨K, hK⟩ : ∃ K, K = 2 ^ k := ⟨_, rfl⟩
  have hK1 : 1 ≤ K := by rw [hK]; exact Nat.two_pow_pos k
  have hK2 : K ≤ 1152921504606846976 := by rw [hK]; exact Nat.pow_le_pow_right (n := 2) (by decide) hk
  have HKK := hid_of hK
  rw [← hK] at hA1 hA2 hC2
  have hsh : ∀ n : Nat, ∀ yk, Op.shift .shr .u64 (n : Int) yk (k : Int) = pure (.int .u64 ((n / K : Nat) : Int)) := fun n yk => by rw [hK]; exact shr_nat k n hk yk
  have HSH := hid_of hsh
  clear hR hRA hRC hRD hs1 h hs hk hK hsh
  go_enter Tryz.func106, Tryz.ntmps106
  go_upto_block 0 with fail
  go_cut [4, 6, 7] from 12 to 48 (fun v4 v6 v7 wr => v4 = .int .i64 ra ∧ v6 = .int .u64 na ∧ wr = w)
  case first =>
    clear HRC HRD HR hC1 hC2 hC3 hC4 HS1
    go_wp2_with fail
    go_loopg [4, 6] 1000 (fun f v4 v6 wr => ∃ (r n : Nat), v4 = .int .i64 r ∧ v6 = .int .u64 n ∧ wr = w ∧ r ≤ s.nd ∧ s.nd < f + r ∧ (r = 0 ∧ n = 0 ∨ 0 < r ∧ 0 < n) ∧ n < 10 * K ∧ Hid (Dc.rsA s k f r n = (ra, na)))
    case atStart => exact ⟨0, 0, rfl, rfl, rfl, by omega, by omega, by omega, by omega, HRA⟩
    case round =>
      obtain ⟨r, n, rfl, rfl, hwr, hr, hf, hrn, hn, hq⟩ := hrel
      have hwr' := hwr.symm
      subst hwr'
      clear hwr
      obtain ⟨f, rfl⟩ : ∃ f, gk = f + 1 := ⟨gk - 1, by omega⟩
      obtain ⟨q, hq1⟩ : ∃ q, n / K = q := ⟨_, rfl⟩
      have hsn : ∀ yk, Op.shift .shr .u64 (n : Int) yk (k : Int) = pure (.int .u64 (q : Int)) := fun yk => by rw [HSH.out n yk, hq1]
      by_cases hnK : n < K
      · have hq0 : q = 0 := by rw [← hq1]; exact Nat.div_eq_of_lt hnK
        subst hq0
        have c0 := H.out.nd
        have hnK' : n < 2 ^ k := by rw [← HKK.out]; exact hnK
        by_cases hlt : r < s.nd
        · have hst := hid_of (Dc.rsA_go (f := f) hnK' hlt)
          have hdg := HS.out.dig r hlt
          have hd0 := HS.out.fst h1
          unfold Dc.Dig at hdg
          obtain ⟨hdg1, hdg2⟩ := hdg
          have cd := H.out.dig (i := r) (by omega)
          have hpos : 0 < n * 10 + (s.d r - 48) := by
            rcases hrn with ⟨rfl, rfl⟩ | h3
            · omega
            · omega
          have hD : ((n * 10 + (s.d r - 48) : Nat) : Int) = (n : Int) * 10 + (s.d r : Int) - 48 := by omega
          clear hnK'
          go_wp2_with fail
          go_roundg f
          case measure => omega
          case rel =>
            refine ⟨r + 1, n * 10 + (s.d r - 48), rfl, ?_, by trivial, by omega, by omega, by omega, by omega, ?_⟩
            · rw [hD]
            · show _ = _
              rw [← hst.out]; exact hq.out
        · have hst := hid_of (Dc.rsA_in (f := f) hnK' hlt)
          have hn0 : 0 < n := by omega
          have hn0' : ((n : Int) == 0) = false := by rw [beq_eq_false_iff_ne]; omega
          have hq2 : Hid (Dc.rsB k 100 r n = (ra, na)) := by show _ = _; rw [← hst.out]; exact hq.out
          clear hst hq hnK' hrn
          go_wp2_with fail
          go_loopg [4, 6] 100 (fun f v4 v6 wr => ∃ (r n j : Nat), v4 = .int .i64 r ∧ v6 = .int .u64 n ∧ wr = w ∧ r + f ≤ 2000 ∧ f + j = 100 ∧ 10 ^ j ≤ n ∧ n < 10 * K ∧ Hid (Dc.rsB k f r n = (ra, na)))
          case atStart => exact ⟨r, n, 0, rfl, rfl, rfl, by omega, by omega, by rw [Nat.pow_zero]; omega, by omega, hq2⟩
          case round =>
            obtain ⟨r', n', j, rfl, rfl, hwr, hr', hfj, hj, hn', hq3⟩ := hrel
            have hwr' := hwr.symm
            subst hwr'
            clear hwr
            have hj21 := Dc.ten_lt hj (by omega)
            obtain ⟨f', rfl⟩ : ∃ f, gk = f + 1 := ⟨gk - 1, by omega⟩
            obtain ⟨q', hq1'⟩ : ∃ q, n' / K = q := ⟨_, rfl⟩
            have hsn' : ∀ yk, Op.shift .shr .u64 (n' : Int) yk (k : Int) = pure (.int .u64 (q' : Int)) := fun yk => by rw [HSH.out n' yk, hq1']
            have HJ := hid_of hj
            by_cases hnK2 : n' < K
            · have hq0 : q' = 0 := by rw [← hq1']; exact Nat.div_eq_of_lt hnK2
              subst hq0
              have hst2 := hid_of (Dc.rsB_go (f := f') (r := r') (show n' < 2 ^ k by rw [← HKK.out]; exact hnK2))
              have hj2 : Hid (10 ^ (j + 1) ≤ n' * 10) := by show _ ≤ _; rw [Nat.pow_succ]; omega
              clear hj
              go_wp2_with fail
              go_roundg f'
              case measure => omega
              case rel =>
                refine ⟨r' + 1, n' * 10, j + 1, rfl, rfl, by trivial, by omega, by omega, hj2.out, by omega, ?_⟩
                show _ = _
                rw [← hst2.out]; exact hq3.out
            · have hq0 : q' ≠ 0 := by
                rw [← hq1']
                have := Nat.div_pos (show K ≤ n' by omega) (by omega)
                omega
              have hq0' : ((q' : Int) == 0) = false := by rw [beq_eq_false_iff_ne]; omega
              have he : (r', n') = (ra, na) := by rw [← hq3.out]; exact (Dc.rsB_stop (by rw [← HKK.out]; omega)).symm
              simp only [Prod.mk.injEq] at he
              obtain ⟨rfl, rfl⟩ := he
              clear hj
              go_wp2_with fail
              go_meet
              exact ⟨rfl, rfl, by trivial⟩
      · have hq0 : q ≠ 0 := by
          rw [← hq1]
          have := Nat.div_pos (show K ≤ n by omega) (by omega)
          omega
        have hq0' : ((q : Int) == 0) = false := by rw [beq_eq_false_iff_ne]; omega
        have he : (r, n) = (ra, na) := by rw [← hq.out]; exact (Dc.rsA_stop (by rw [← HKK.out]; omega)).symm
        simp only [Prod.mk.injEq] at he
        obtain ⟨rfl, rfl⟩ := he
        go_wp2_with fail
        go_meet
        exact ⟨rfl, rfl, by trivial⟩
  case rest =>
  obtain ⟨rfl, rfl, hw⟩ := hcut
  have hw' := hw.symm
  subst hw'
  clear hw HRA
  have c1 := H.out.dp
  have f1 := H.out.frozen 801
  have hshl : ∀ yk, Op.shift .shl .u64 1 yk (k : Int) = pure (.int .u64 (K : Int)) := fun yk => by
    have := shl_nat k 1 HK.out (by omega) yk
    rw [HKK.out]
    simpa using this
  have HD1 : Hid (DAt (w.setCell ⟨g, 801, none⟩ (.int .i64 (s.dp - ((ra : Int) - 1)))) g s1) := by
    rw [HS1.out]; exact H.out.setDp _
  have hs1nd : s1.nd = s.nd := by rw [HS1.out]
  have HG1 : Hid (∀ i, i < s1.nd → Dc.Dig (s1.d i)) := by rw [HS1.out]; exact HS.out.dig
  have hb1 : Hid (Below B w (w.setCell ⟨g, 801, none⟩ (.int .i64 (s.dp - ((ra : Int) - 1))))) := (Below.refl _ _).setCell hB _
  clear HS1
  go_upto_block 4 with fail
  go_cut [4, 5, 6, 9, 10] from 61 to 96 (fun v4 v5 v6 v9 v10 wr => v5 = .int .i64 w2 ∧ v6 = .int .u64 n2 ∧ DAt wr g s2 ∧ Below B w wr)
  case first =>
    clear HRD HR
    go_wp2_with fail
    go_loopg [4, 5, 6] 1000 (fun f v4 v5 v6 wr => ∃ (s' : Dc) (r wi n : Nat), v4 = .int .i64 r ∧ v5 = .int .i64 wi ∧ v6 = .int .u64 n ∧ DAt wr g s' ∧ Below B w wr ∧ s'.nd = s.nd ∧ wi < r ∧ r ≤ 2000 ∧ s.nd < f + r ∧ n < 10 * K ∧ Hid (∀ i, r ≤ i → i < s'.nd → Dc.Dig (s'.d i)) ∧ Hid (Dc.rsC k f s' r wi n = (s2, w2, n2)))
    case atStart => exact ⟨s1, ra, 0, na, rfl, rfl, rfl, HD1.out, hb1.out, hs1nd, by omega, by omega, by omega, by omega, hid_of (fun i _ hi => HG1.out i hi), HRC⟩
    case round =>
      obtain ⟨s', r, wi, n, rfl, rfl, rfl, hD0, hb, hnd', hwi, hr2, hf, hn, hg, hq⟩ := hrel
      have hD := hid_of hD0
      have hbb := hid_of hb
      have c0 := hD0.nd
      rw [hnd'] at c0
      by_cases hlt : r < s.nd
      · obtain ⟨f, rfl⟩ : ∃ f, gk = f + 1 := ⟨gk - 1, by omega⟩
        have hdg := hg.out r (Nat.le_refl _) (by omega)
        unfold Dc.Dig at hdg
        obtain ⟨hdg1, hdg2⟩ := hdg
        have cd := hD0.dig (i := r) (by omega)
        have cw := hD0.dig (i := wi) (by omega)
        have fw := hD0.frozen wi
        obtain ⟨q, hq1⟩ : ∃ q, n / K = q := ⟨_, rfl⟩
        obtain ⟨t, ht⟩ : ∃ t, n % K = t := ⟨_, rfl⟩
        have hsn : ∀ yk, Op.shift .shr .u64 (n : Int) yk (k : Int) = pure (.int .u64 (q : Int)) := fun yk => by rw [HSH.out n yk, hq1]
        have han : bits .and .u64 (n : Int) ((K : Int) - 1) = (t : Int) := by rw [← ht, HKK.out]; exact and_mask k n HK.out (by omega)
        have hq9 : q < 10 := by rw [← hq1, Nat.div_lt_iff_lt_mul (by omega)]; omega
        have htK : t < K := by rw [← ht]; exact Nat.mod_lt _ (by omega)
        have hst := hid_of (Dc.rsC_go (k := k) (f := f) (s := s') (w := wi) (n := n) (show r < s'.nd by omega))
        rw [← HKK.out, hq1, ht] at hst
        have hDn := hid_of (hD0.setDig (i := wi) (by omega) (q + 48) (x := (q : Int) + 48) (by omega))
        have hbn := hid_of (hb.setCell (p := ⟨g, wi, none⟩) hB (.int .u8 ((q : Int) + 48)))
        clear hD0 hb hq1 ht
        go_wp2_with fail
        go_roundg f
        case measure => omega
        case rel =>
          refine ⟨s'.put wi (q + 48), r + 1, wi + 1, t * 10 + (s'.d r - 48), rfl, rfl, ?_, hDn.out, hbn.out, hnd', by omega, by omega, by omega, by omega, ?_, ?_⟩
          · congr 1; omega
          · intro i hi hi2
            rw [Dc.put_d, if_neg (by omega)]
            exact hg.out i (by omega) hi2
          · show _ = _
            rw [← hst.out]; exact hq.out
      · have he : (s', wi, n) = (s2, w2, n2) := by rw [← hq.out]; exact (Dc.rsC_stop (by omega)).symm
        simp only [Prod.mk.injEq] at he
        obtain ⟨rfl, rfl, rfl⟩ := he
        clear hD0 hb
        go_wp2_with fail
        go_meet
        exact ⟨rfl, rfl, hD.out, hbb.out⟩
  case rest =>
  obtain ⟨rfl, rfl, hD20, hb20⟩ := hcut
  have hD2 := hid_of hD20
  have hb2 := hid_of hb20
  clear hD20 hb20 HRC HD1 hb1 HG1 c1 f1 H
  go_upto_block 6 with fail
  go_cut [5, 6, 11] from 97 to 123 (fun v5 v6 v11 wr => v5 = .int .i64 w3 ∧ DAt wr g s3 ∧ Below B w wr ∧ w3 ≤ 800)
  case first =>
    clear HR
    go_wp2_with fail
    go_loopg [5, 6] 100 (fun f v5 v6 wr => ∃ (s' : Dc) (wi n j : Nat), v5 = .int .i64 wi ∧ v6 = .int .u64 n ∧ DAt wr g s' ∧ Below B w wr ∧ wi ≤ 800 ∧ f + j = 100 ∧ 2 ^ j ∣ n ∧ n < 10 * K ∧ Hid (Dc.rsD k f s' wi n = (s3, w3)))
    case atStart => exact ⟨s2, w2, n2, 0, rfl, rfl, hD2.out, hb2.out, hC4, by omega, by simp, by omega, HRD⟩
    case round =>
      obtain ⟨s', wi, n, j, rfl, rfl, hD0, hb, hwi, hfj, hj0, hn, hq⟩ := hrel
      have hD := hid_of hD0
      have hbb := hid_of hb
      have hj := hid_of hj0
      clear hj0
      by_cases hn0 : n = 0
      · have he : (s', wi) = (s3, w3) := by rw [← hq.out]; exact (Dc.rsD_stop hn0).symm
        simp only [Prod.mk.injEq] at he
        obtain ⟨rfl, rfl⟩ := he
        subst hn0
        clear hD0 hb
        go_wp2_with fail
        go_meet
        exact ⟨rfl, hD.out, hbb.out, hwi⟩
      · have hj64 := Dc.low_lt hj.out hn0 (by omega)
        obtain ⟨f, rfl⟩ : ∃ f, gk = f + 1 := ⟨gk - 1, by omega⟩
        have hnpos : 0 < n := by omega
        obtain ⟨q, hq1⟩ : ∃ q, n / K = q := ⟨_, rfl⟩
        obtain ⟨t, ht⟩ : ∃ t, n % K = t := ⟨_, rfl⟩
        have hsn : ∀ yk, Op.shift .shr .u64 (n : Int) yk (k : Int) = pure (.int .u64 (q : Int)) := fun yk => by rw [HSH.out n yk, hq1]
        have han : bits .and .u64 (n : Int) ((K : Int) - 1) = (t : Int) := by rw [← ht, HKK.out]; exact and_mask k n HK.out (by omega)
        have hq9 : q < 10 := by rw [← hq1, Nat.div_lt_iff_lt_mul (by omega)]; omega
        have htK : t < K := by rw [← ht]; exact Nat.mod_lt _ (by omega)
        have hj2 : Hid (2 ^ (j + 1) ∣ t * 10) := by rw [← ht, HKK.out]; exact Dc.dvd_step hj.out
        by_cases hw8 : wi < 800
        · have cw := hD0.dig (i := wi) hw8
          have fw := hD0.frozen wi
          have hst := hid_of (Dc.rsD_put (k := k) (f := f) (s := s') hn0 hw8)
          rw [← HKK.out, hq1, ht] at hst
          have hDn := hid_of (hD0.setDig (i := wi) hw8 (q + 48) (x := (q : Int) + 48) (by omega))
          have hbn := hid_of (hb.setCell (p := ⟨g, wi, none⟩) hB (.int .u8 ((q : Int) + 48)))
          clear hD0 hb hq1 ht
          go_wp2_with fail
          go_roundg f
          case measure => omega
          case rel =>
            refine ⟨s'.put wi (q + 48), wi + 1, t * 10, j + 1, rfl, rfl, hDn.out, hbn.out, by omega, by omega, hj2.out, by omega, ?_⟩
            show _ = _
            rw [← hst.out]; exact hq.out
        · have ct := hD0.tr
          have ft := hD0.frozen 803
          by_cases hq0 : 0 < q
          · have hst := hid_of (Dc.rsD_tr (k := k) (f := f) (s := s') hn0 hw8 (by rw [← HKK.out, hq1]; exact hq0))
            rw [← HKK.out, ht] at hst
            have hDn := hid_of (hD0.setTr true)
            have hbn := hid_of (hb.setCell (p := ⟨g, 803, none⟩) hB (.bool true))
            clear hD0 hb hq1 ht
            go_wp2_with fail
            go_roundg f
            case measure => omega
            case rel =>
              refine ⟨{ s' with tr := true }, wi, t * 10, j + 1, rfl, rfl, hDn.out, hbn.out, by omega, by omega, hj2.out, by omega, ?_⟩
              show _ = _
              rw [← hst.out]; exact hq.out
          · have hst := hid_of (Dc.rsD_no (k := k) (f := f) (s := s') hn0 hw8 (by rw [← HKK.out, hq1]; exact hq0))
            rw [← HKK.out, ht] at hst
            clear hD0 hb hq1 ht
            go_wp2_with fail
            go_roundg f
            case measure => omega
            case rel =>
              refine ⟨s', wi, t * 10, j + 1, rfl, rfl, hD.out, hbb.out, by omega, by omega, hj2.out, by omega, ?_⟩
              show _ = _
              rw [← hst.out]; exact hq.out
  case rest =>
  obtain ⟨rfl, hD30, hb30, hw38⟩ := hcut
  have c0 := hD30.nd
  have f0 := hD30.frozen 800
  have hb4 := hid_of (hb30.setCell (p := ⟨g, 800, none⟩) hB (.int .i64 (w3 : Int)))
  have cT := trim_calls g B hB { s3 with nd := w3 } hw38 _ (hD30.setNd w3 (x := (w3 : Int)) rfl)
  have hTR := HR.out
  rw [hTR] at cT
  clear hD30 hb30 hD2 hb2 HRD HR hTR
  go_wp2_with (go_at_call 113; go_fit cT; rintro e w' ⟨rfl, hD9, hb9⟩)
  go_end0
  exact ⟨rfl, hD9, hb4.out.trans hb9⟩
end Go.Proofs.Qxb6606206aGreatDoor
