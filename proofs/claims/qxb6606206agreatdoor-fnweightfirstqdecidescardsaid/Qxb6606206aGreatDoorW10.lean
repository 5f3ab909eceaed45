import Derived.Test.Qxb6606206aGreatDoorW9
import Derived.Deep.RegionWith
set_option linter.unusedSimpArgs false
set_option linter.unusedVariables false
namespace Go.Proofs.Qxb6606206aGreatDoor
open Go Go.RowKit
attribute [local go_sem] str_size str_get

/-- A row of the table 'leftcheats'. -/
structure LCrow (w : World) (blk o cap k δ : Nat) (cut : List UInt8) : Prop where
  c15 : w.cell? ⟨15, 0, none⟩ = some (.slice (some ⟨blk, o, none⟩) 61 cap)
  cd : w.cell? ⟨blk, o + k * 2, none⟩ = some (.int .i64 δ)
  cc : w.cell? ⟨blk, o + k * 2 + 1, none⟩ = some (.string (str cut))
theorem LCrow.below {w w' : World} {blk o cap k δ B : Nat} {cut : List UInt8} (h : LCrow w blk o cap k δ cut) (hb : Below B w w') (h1 : blk < B) (h2 : 15 < B) : LCrow w' blk o cap k δ cut :=
  ⟨(hb.cell (p := ⟨15, 0, none⟩) h2).trans h.c15, (hb.cell (p := ⟨blk, o + k * 2, none⟩) h1).trans h.cd, (hb.cell (p := ⟨blk, o + k * 2 + 1, none⟩) h1).trans h.cc⟩

theorem slice_d (g n : Nat) (hn : n ≤ 800) (w : World) : (Instr.sliceAt 108 (.pointer (some ⟨g, 0, none⟩)) (some (.int .i64 0)) (some (.int .i64 (n : Int))) none).run Tryz.prog w = .ok (.slice (some ⟨g, 0, none⟩) n 800) w := by
  have hal : Tryz.prog.arrayLen 108 = 800 := by kernel_rfl
  have hel : Tryz.prog.elem 108 = 5 := by kernel_rfl
  rw [run_sliceAt_array_lh (ht := by rw [hal, hel]; exact Tryz.underlying108) (h0 := by omega) (h1 := by omega) (h2 := by rw [hal]; omega), hal, hel]
  have hz : (sizeOf 5).run Tryz.prog w = .ok 1 w := by simp [go_sem, Tryz.sizeOf5]
  rw [hz]
  simp [Result.andThen, slicedAt, Addr.add]

theorem lsB_go {f : Nat} {s : Dc} {w n : Nat} (hn : n ≠ 0) : Dc.lsB (f + 1) s w n = Dc.lsB f (s.drop1 (w - 1) (n % 10)) (w - 1) (n / 10) := by rw [Dc.lsB, if_neg hn]
theorem lsB_stop {f : Nat} {s : Dc} {w n : Nat} (hn : n = 0) : Dc.lsB f s w n = (s, w) := by
  cases f with
  | zero => rfl
  | succ f => rw [Dc.lsB, if_pos hn]
theorem drop1_in (s : Dc) {w : Nat} (v : Nat) (h : w < 800) : s.drop1 w v = s.put w (v + 48) := by rw [Dc.drop1, if_pos h]
theorem drop1_no (s : Dc) {w : Nat} (h : ¬ w < 800) : s.drop1 w 0 = s := by rw [Dc.drop1, if_neg h, if_pos rfl]
theorem drop1_tr (s : Dc) {w v : Nat} (h : ¬ w < 800) (hv : v ≠ 0) : s.drop1 w v = { s with tr := true } := by rw [Dc.drop1, if_neg h, if_neg hv]

set_option maxHeartbeats 6400000 in
set_option maxRecDepth 20000 in
theorem lshift_calls (g B : Nat) (hB : B ≤ g) (k δ : Nat) (cut : List UInt8) (hk : k ≤ 60) (hT : Dc.Cheat k δ (Cf cut) cut.length) (s : Dc) (hs : s.Ok) (h1 : 0 < s.nd) (hdp : -1000000000 ≤ s.dp) (hdp' : s.dp ≤ 1000000000) (w : World) (h : DAt w g s)
    (blk o cap : Nat) (hblk : blk < B) (h15 : 15 < B) (hL : LCrow w blk o cap k δ cut) :
    Calls Tryz.prog 105 #[.pointer (some ⟨g, 0, none⟩), .int .u64 k] w (DPost B g w (s.lshift k δ (Cf cut) cut.length)) := by
  have hsp := Dc.lad_spec hs h1 hT
  have hδ1 := hT.pos
  have hδ2 := hT.small
  have hcs := hT.csm
  obtain ⟨lb, hlb⟩ : ∃ lb, Dc.pil s.d s.nd (Cf cut) cut.length 100 0 = lb := ⟨_, rfl⟩
  obtain ⟨L, hL'⟩ : ∃ L, L = Dc.lad s δ (Cf cut) cut.length := ⟨_, rfl⟩
  have hLv : L = δ - (if lb then 1 else 0) := by rw [hL', Dc.lad, hlb]
  rw [← hL'] at hsp
  have hA := Dc.lsA_ok (s0 := s) (k := k) (δ := L) hk hs rfl rfl h1 s.nd s (s.nd + L) 0 (Nat.le_refl _) rfl (fun _ _ => rfl) (by simp) (by intro i a b; omega) (by omega)
  obtain ⟨RA, hRA⟩ : ∃ RA, Dc.lsA k s.nd s (s.nd + L) 0 = RA := ⟨_, rfl⟩
  rw [hRA] at hA
  obtain ⟨s2, w2, n2⟩ := RA
  simp only [] at hA
  obtain ⟨hA1, hA2, hA3, hA4, -, -⟩ := hA
  obtain ⟨RB, hRB⟩ : ∃ RB, Dc.lsB 100 s2 w2 n2 = RB := ⟨_, rfl⟩
  obtain ⟨s3, w3⟩ := RB
  obtain ⟨R, hR⟩ : ∃ R, s.lshift k δ (Cf cut) cut.length = R := ⟨_, rfl⟩
  have HR : Hid (({ s3 with nd := if 800 ≤ s.nd + L then 800 else s.nd + L, dp := s.dp + L } : Dc).trim = R) := by
    show _ = _
    rw [← hR]
    unfold Dc.lshift
    rw [← hL']
    simp only [hRA, hRB]
  rw [hR]
  have HRA := hid_of hRA
  have HRB := hid_of hRB
  have H := hid_of h
  have HS := hid_of hs
  have HSP := hid_of hsp
  have hnd8 : s.nd ≤ 800 := hs.le
  have HK := hid_of hk
  have HA4 := hid_of hA4
  obtain ⟨K, hK⟩ : ∃ K, K = 2 ^ k := ⟨_, rfl⟩
  have hK1 : 1 ≤ K := by rw [hK]; exact Nat.two_pow_pos k
  have hK2 : K ≤ 1152921504606846976 := by rw [hK]; exact Nat.pow_le_pow_right (n := 2) (by decide) hk
  have HKK := hid_of hK
  have hglt := h.lt
  have cP := pil_calls g s hs.le cut hcs
  rw [hlb] at cP
  have HL := hid_of hL
  have HLV := hid_of hLv
  have hk61 : (k : Int) < 61 := by omega
  clear hR hRA hRB h hs hk hK hlb hL' hsp hA4 hT hLv
  have t15 := hL.c15
  have td := hL.cd
  have tc := hL.cc
  have c0 := H.out.nd
  have hsl := slice_d g s.nd hnd8
  clear hL
  go_enter Tryz.func105, Tryz.ntmps105
  go_upto_region 1 with fail
  go_cut [30] from 17 to 29 (fun v wr => v = .bool lb ∧ Below w.heap.size w wr)
  case first =>
    clear HRA HRB HR HSP HA4
    go_region_with (go_at_call 112; go_fit (cP _ (by exact H.out)); rintro e w' ⟨rfl, hbq⟩)
    all_goals
      go_wp2_with fail
      go_meet
      exact ⟨rfl, (Below.refl w.heap.size w).drew.trans hbq⟩
  case rest =>
  obtain ⟨rfl, hbP⟩ := hcut
  have hDc := hid_of (H.out.below hbP hglt)
  have hbc := hid_of (hbP.mono (show B ≤ w.heap.size by omega))
  have c0c := hDc.out.nd
  clear hbP cP t15 td tc c0 hsl H hk61
  go_upto_if 30 with fail
  go_cut [4] from 31 to 32 (fun v wr => v = .int .i64 L ∧ wr = wc)
  case first =>
    have e := HLV.out
    clear HRA HRB HR HSP HA4 HLV
    cases lb with
    | true =>
      simp only [if_true] at e
      have e' : ((L : Nat) : Int) = (δ : Int) - 1 := by omega
      go_wp2_with fail
      go_meet
      exact ⟨by rw [e'], rfl⟩
    | false =>
      simp only [if_false, Bool.false_eq_true, Nat.sub_zero] at e
      subst e
      go_wp2_with fail
      go_meet
      exact ⟨rfl, rfl⟩
  case rest =>
  obtain ⟨rfl, hw⟩ := hcut
  have hw' := hw.symm
  subst hw'
  clear hw
  have hLle : L ≤ 20 := by have := HLV.out; omega
  clear HLV
  have hw2L : w2 = L := hA3
  clear hA3
  go_upto_block 0 with fail
  go_cut [5, 6, 7, 8, 9] from 45 to 84 (fun v5 v6 v7 v8 v9 wr => v6 = .int .i64 w2 ∧ v7 = .int .u64 n2 ∧ DAt wr g s2 ∧ Below B w wr ∧ s2.nd = s.nd ∧ s2.dp = s.dp ∧ n2 < K)
  case first =>
    clear HRB HR HSP HA4
    go_wp2_with fail
    go_loopg [5, 6, 7] s.nd (fun r v5 v6 v7 wr => ∃ (s' : Dc) (wi n : Nat), v5 = .int .i64 ((r : Int) - 1) ∧ v6 = .int .i64 wi ∧ v7 = .int .u64 n ∧ wi = r + L ∧ DAt wr g s' ∧ Below B w wr ∧ s'.nd = s.nd ∧ s'.dp = s.dp ∧ r ≤ s.nd ∧ n < K ∧ Hid (∀ i, i < r → s'.d i = s.d i) ∧ Hid (Dc.lsA k r s' wi n = (s2, w2, n2)))
    case atStart => exact ⟨s, s.nd + L, 0, rfl, rfl, rfl, rfl, hDc.out, hbc.out, rfl, rfl, by omega, by omega, hid_of (fun _ _ => rfl), HRA⟩
    case round =>
      obtain ⟨s', wi, n, h5, rfl, rfl, hwi, hD0, hb, hnd', hdpp, hr, hn, hsame, hq⟩ := hrel
      have hD := hid_of hD0
      have hbb := hid_of hb
      cases gk with
      | zero =>
        have e5 : ((0 : Nat) : Int) - 1 = -1 := by omega
        rw [e5] at h5
        subst h5
        have he : (s', wi, n) = (s2, w2, n2) := hq.out
        simp only [Prod.mk.injEq] at he
        obtain ⟨rfl, rfl, rfl⟩ := he
        clear hD0 hb
        go_wp2_with fail
        go_meet
        exact ⟨rfl, rfl, hD.out, hbb.out, hnd', hdpp, hn⟩
      | succ r =>
        have e5 : ((r + 1 : Nat) : Int) - 1 = r := by omega
        rw [e5] at h5
        subst h5
        obtain ⟨wj, hwj⟩ : ∃ wj, wj = r + L := ⟨_, rfl⟩
        obtain rfl : wi = wj + 1 := by omega
        have HWJ := hid_of hwj
        have hwj1 : wj ≤ 820 := by omega
        have hrwj : r ≤ wj := by omega
        clear hwj hwi
        have hdg := HS.out.dig r (by omega)
        unfold Dc.Dig at hdg
        obtain ⟨hdg1, hdg2⟩ := hdg
        have cd := hD0.dig (i := r) (by omega)
        rw [hsame.out r (by omega)] at cd
        obtain ⟨D, hDD⟩ : ∃ D, D = (s.d r - 48) * K := ⟨_, rfl⟩
        have hD9 : D ≤ 9 * K := by rw [hDD]; exact Nat.mul_le_mul_right _ (by omega)
        have hshl : ∀ yk, Op.shift .shl .u64 ((s.d r : Int) - 48) yk (k : Int) = pure (.int .u64 (D : Int)) := fun yk => by
          have := shl_nat k (s.d r - 48) HK.out (by omega) yk
          rw [← HKK.out, ← hDD] at this
          rw [← this]
          congr 1
          omega
        have hst : Hid (Dc.lsA k (r + 1) s' (wj + 1) n = Dc.lsA k r (s'.drop1 wj ((n + D) % 10)) wj ((n + D) / 10)) := by
          show _ = _
          rw [Dc.lsA, hsame.out r (by omega), ← HKK.out, ← hDD]; rfl
        clear hDD
        have hquo : ((n : Int) + (D : Int)) / 10 = (((n + D) / 10 : Nat) : Int) := by omega
        obtain ⟨q, hqq⟩ : ∃ q, q = (n + D) / 10 := ⟨_, rfl⟩
        obtain ⟨t, htt⟩ : ∃ t, t = (n + D) % 10 := ⟨_, rfl⟩
        have ht10 : t < 10 := by omega
        have hqK : q < K := by omega
        rw [← hqq] at hquo
        rw [← htt, ← hqq] at hst
        have hND : n + D = 10 * q + t := by omega
        have hrem : (n : Int) + (D : Int) - 10 * (q : Int) = (t : Int) := by omega
        clear htt hqq
        by_cases hw8 : wj < 800
        · rw [drop1_in s' t hw8] at hst
          have cw := hD0.dig (i := wj) hw8
          have fw := hD0.frozen wj
          have hDn := hid_of (hD0.setDig (i := wj) hw8 (t + 48) (x := (t : Int) + 48) (by omega))
          have hbn := hid_of (hb.setCell (p := ⟨g, wj, none⟩) hB (.int .u8 ((t : Int) + 48)))
          clear hD0 hb
          go_wp2_with fail
          go_roundg r
          case measure => omega
          case rel =>
            refine ⟨s'.put wj (t + 48), wj, q, rfl, rfl, by first | rfl | rw [hquo], HWJ.out, hDn.out, hbn.out, hnd', hdpp, by omega, hqK, ?_, ?_⟩
            · intro i hi
              rw [Dc.put_d, if_neg (by omega)]
              exact hsame.out i (by omega)
            · show _ = _
              rw [← hst.out]; exact hq.out
        · have ct := hD0.tr
          have ft := hD0.frozen 803
          by_cases ht0 : t = 0
          · subst ht0
            rw [drop1_no s' hw8] at hst
            clear hD0 hb
            go_wp2_with fail
            go_roundg r
            case measure => omega
            case rel =>
              refine ⟨s', wj, q, rfl, rfl, by first | rfl | rw [hquo], HWJ.out, hD.out, hbb.out, hnd', hdpp, by omega, hqK, fun i hi => hsame.out i (by omega), ?_⟩
              show _ = _
              rw [← hst.out]; exact hq.out
          · rw [drop1_tr s' hw8 ht0] at hst
            have htn : ((t : Int) != 0) = true := by rw [bne_iff_ne]; omega
            have hDn := hid_of (hD0.setTr true)
            have hbn := hid_of (hb.setCell (p := ⟨g, 803, none⟩) hB (.bool true))
            clear hD0 hb
            go_wp2_with fail
            go_roundg r
            case measure => omega
            case rel =>
              refine ⟨{ s' with tr := true }, wj, q, rfl, rfl, by first | rfl | rw [hquo], HWJ.out, hDn.out, hbn.out, hnd', hdpp, by omega, hqK, fun i hi => hsame.out i (by omega), ?_⟩
              show _ = _
              rw [← hst.out]; exact hq.out
  case rest =>
  obtain ⟨rfl, rfl, hD20, hb20, hnd2, hdp2, hn2K⟩ := hcut
  have hD2 := hid_of hD20
  have hb2 := hid_of hb20
  clear hD20 hb20 HRA hDc hbc c0c
  obtain ⟨N, hN⟩ : ∃ N, N = s.nd + L := ⟨_, rfl⟩
  have hw2N : w2 ≤ N := by omega
  have HN := hid_of hN
  have hNb : N ≤ 820 := by omega
  have hNp : 0 < N := by omega
  have HA5 : Hid (n2 = Dc.dv s.d s.nd * 2 ^ k / 10 ^ (N - w2)) := by
    show _ = _
    rw [hN, hw2L, Nat.add_sub_cancel]; exact HA4.out
  have HSP2 : Hid (10 ^ (N - 1) ≤ Dc.dv s.d s.nd * 2 ^ k ∧ Dc.dv s.d s.nd * 2 ^ k < 10 ^ N) := by rw [hN]; exact HSP.out
  clear hN HSP HA4
  have hw2a : w2 ≤ 20 := by omega
  go_upto_block 2 with fail
  go_cut [6, 7, 10, 11] from 85 to 110 (fun v6 v7 v10 v11 wr => DAt wr g s3 ∧ Below B w wr ∧ s3.nd = s.nd ∧ s3.dp = s.dp)
  case first =>
    clear HR
    go_wp2_with fail
    go_loopg [6, 7] 100 (fun f v6 v7 wr => ∃ (s' : Dc) (wi n : Nat), v6 = .int .i64 wi ∧ v7 = .int .u64 n ∧ DAt wr g s' ∧ Below B w wr ∧ s'.nd = s.nd ∧ s'.dp = s.dp ∧ wi ≤ N ∧ wi ≤ 20 ∧ wi < f ∧ n < K ∧ Hid (n = Dc.dv s.d s.nd * 2 ^ k / 10 ^ (N - wi)) ∧ Hid (Dc.lsB f s' wi n = (s3, w3)))
    case atStart => exact ⟨s2, w2, n2, rfl, rfl, hD2.out, hb2.out, hnd2, hdp2, hw2N, hw2a, by omega, hn2K, HA5, HRB⟩
    case round =>
      obtain ⟨s', wi, n, rfl, rfl, hD0, hb, hnd', hdpp, hwN, hw20, hf, hn, hval, hq⟩ := hrel
      have hD := hid_of hD0
      have hbb := hid_of hb
      by_cases hn0 : n = 0
      · have he : (s', wi) = (s3, w3) := by rw [← hq.out]; exact (lsB_stop hn0).symm
        simp only [Prod.mk.injEq] at he
        obtain ⟨rfl, rfl⟩ := he
        subst hn0
        clear hD0 hb
        go_wp2_with fail
        go_meet
        exact ⟨hD.out, hbb.out, hnd', hdpp⟩
      · have hwp : 0 < wi := by
          rcases Nat.eq_zero_or_pos wi with h0 | h0
          · exfalso
            subst h0
            have := hval.out
            rw [Nat.sub_zero, Nat.div_eq_of_lt HSP2.out.2] at this
            exact hn0 this
          · exact h0
        obtain ⟨f, rfl⟩ : ∃ f, gk = f + 1 := ⟨gk - 1, by omega⟩
        obtain ⟨wj, rfl⟩ : ∃ wj, wi = wj + 1 := ⟨wi - 1, by omega⟩
        have hnpos : 0 < n := by omega
        have hst := hid_of (lsB_go (f := f) (s := s') (w := wj + 1) hn0)
        rw [Nat.add_sub_cancel] at hst
        obtain ⟨q, hqq⟩ : ∃ q, q = n / 10 := ⟨_, rfl⟩
        obtain ⟨t, htt⟩ : ∃ t, t = n % 10 := ⟨_, rfl⟩
        have hquo : (n : Int) / 10 = (q : Int) := by omega
        have ht10 : t < 10 := by omega
        have hqK : q < K := by omega
        have hrem : (n : Int) - 10 * (q : Int) = (t : Int) := by omega
        have hval2 : Hid (q = Dc.dv s.d s.nd * 2 ^ k / 10 ^ (N - wj)) := by
          show _ = _
          rw [hqq, hval.out, Nat.div_div_eq_div_mul, ← Nat.pow_succ]
          congr 2; omega
        rw [← htt, ← hqq] at hst
        clear htt hqq hval
        by_cases hw8 : wj < 800
        · rw [drop1_in s' t hw8] at hst
          have cw := hD0.dig (i := wj) hw8
          have fw := hD0.frozen wj
          have hDn := hid_of (hD0.setDig (i := wj) hw8 (t + 48) (x := (t : Int) + 48) (by omega))
          have hbn := hid_of (hb.setCell (p := ⟨g, wj, none⟩) hB (.int .u8 ((t : Int) + 48)))
          clear hD0 hb
          go_wp2_with fail
          go_roundg f
          case measure => omega
          case rel =>
            refine ⟨s'.put wj (t + 48), wj, q, rfl, by first | rfl | rw [hquo], hDn.out, hbn.out, hnd', hdpp, by omega, by omega, by omega, hqK, hval2, ?_⟩
            show _ = _
            rw [← hst.out]; exact hq.out
        · exact absurd (show wj < 800 by omega) hw8
  case rest =>
  obtain ⟨hD30, hb30, hnd3, hdp3⟩ := hcut
  clear hD2 hb2 HRB HA5 HSP2
  have c0 := hD30.nd
  have f0 := hD30.frozen 800
  have c1 := hD30.dp
  have f1 := hD30.frozen 801
  rw [hnd3] at c0
  rw [hdp3] at c1
  have hNL := HN.out
  by_cases h800 : 800 ≤ N
  · have hb4 := hid_of (((hb30.setCell (p := ⟨g, 800, none⟩) hB (.int .i64 ((s.nd : Int) + L))).setCell (p := ⟨g, 800, none⟩) hB (.int .i64 800)).setCell (p := ⟨g, 801, none⟩) hB (.int .i64 (s.dp + L)))
    have hD4 := (((hD30.setNd (s.nd + L) (x := (s.nd : Int) + L) (by omega)).setNd 800 (x := (800 : Int)) rfl).setDp (s.dp + L))
    have cT := trim_calls g B hB { s3 with nd := 800, dp := s.dp + L } (by simp) _ hD4
    have hTR := HR.out
    rw [if_pos (by omega)] at hTR
    rw [hTR] at cT
    clear hD30 hb30 HR hTR hD4 HN
    subst hNL
    go_wp2_with (go_at_call 113; go_fit cT; rintro e w' ⟨rfl, hD9, hb9⟩)
    go_end0
    exact ⟨rfl, hD9, hb4.out.trans hb9⟩
  · have hb4 := hid_of ((hb30.setCell (p := ⟨g, 800, none⟩) hB (.int .i64 ((s.nd : Int) + L))).setCell (p := ⟨g, 801, none⟩) hB (.int .i64 (s.dp + L)))
    have hD4 := ((hD30.setNd (s.nd + L) (x := (s.nd : Int) + L) (by omega)).setDp (s.dp + L))
    have cT := trim_calls g B hB { s3 with nd := s.nd + L, dp := s.dp + L } (by simp only []; omega) _ hD4
    have hTR := HR.out
    rw [if_neg (by omega)] at hTR
    rw [hTR] at cT
    clear hD30 hb30 HR hTR hD4 HN
    subst hNL
    go_wp2_with (go_at_call 113; go_fit cT; rintro e w' ⟨rfl, hD9, hb9⟩)
    go_end0
    exact ⟨rfl, hD9, hb4.out.trans hb9⟩
end Go.Proofs.Qxb6606206aGreatDoor
