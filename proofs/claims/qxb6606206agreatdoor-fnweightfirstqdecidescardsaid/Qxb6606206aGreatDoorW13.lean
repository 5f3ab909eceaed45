import Derived.Test.Qxb6606206aGreatDoorW12
import Derived.Test.Qxb6606206aGreatDoorL6
set_option linter.unusedSimpArgs false
set_option linter.unusedVariables false
namespace Go.Proofs.Qxb6606206aGreatDoor
open Go Go.RowKit
attribute [local go_sem] str_size str_get str_extract str_toList str_append

/-- What 'set' leaves. -/
def SetP (B g : Nat) (w : World) (R : Option Dc) (e : Ending) (w' : World) : Prop := Below B w w' ∧ match R with
  | none => e = .returned (.bool false)
  | some s => e = .returned (.bool true) ∧ DAt w' g s

set_option maxHeartbeats 6400000 in
set_option maxRecDepth 20000 in
theorem set_nil (g B : Nat) (hB : B ≤ g) (w : World) (h : DAt w g dc0) : Calls Tryz.prog 78 #[.pointer (some ⟨g, 0, none⟩), .string (str [])] w (SetP B g w (st [])) := by
  have hb1 := hid_of (((Below.refl B w).setCell (p := ⟨g, 802, none⟩) hB (.bool false)).setCell (p := ⟨g, 803, none⟩) hB (.bool false))
  have c2 := h.neg
  have c3 := h.tr
  have f2 := h.frozen 802
  have f3 := h.frozen 803
  clear h
  go_enter Tryz.func78, Tryz.ntmps78
  go_wp2_with fail
  go_ret
  exact ⟨hb1.out, rfl⟩

set_option maxHeartbeats 12800000 in
set_option maxRecDepth 20000 in
theorem set_calls (g B : Nat) (hB : B ≤ g) (c0 : UInt8) (t0 : List UInt8) (hl0 : (c0 :: t0).length ≤ 1000000000) (w : World) (h : DAt w g dc0) :
    Calls Tryz.prog 78 #[.pointer (some ⟨g, 0, none⟩), .string (str (c0 :: t0))] w (SetP B g w (st (c0 :: t0))) := by
  obtain ⟨l, hl⟩ : ∃ l, c0 :: t0 = l := ⟨_, rfl⟩
  obtain ⟨neg, hneg⟩ : ∃ neg, neg = decide (c0 = 45) := ⟨_, rfl⟩
  obtain ⟨i0, hi0⟩ : ∃ i0 : Nat, i0 = if c0 = 43 ∨ c0 = 45 then 1 else 0 := ⟨_, rfl⟩
  obtain ⟨R, hR⟩ : ∃ R, st (c0 :: t0) = R := ⟨_, rfl⟩
  have H0 : Hid (st0 l neg i0 = R) := by
    show _ = _
    rw [← hR, st, hi0, hneg, ← hl]
    by_cases h1 : c0 = 43
    · subst h1; rfl
    · by_cases h2 : c0 = 45
      · subst h2; rfl
      · simp [h1, h2]
  have hlen : 1 ≤ l.length := by rw [← hl]; simp
  have hne : l ≠ [] := by rw [← hl]; simp
  have hlen' : l.length ≤ 1000000000 := by rw [← hl]; exact hl0
  have hi0' : i0 ≤ 1 := by rw [hi0]; split <;> omega
  have hgl : (l[0]'hlen) = c0 := by subst hl; rfl
  rw [hR, hl]
  have HN := hid_of hneg
  have HI := hid_of hi0
  have e0 : ({ ({ dc0 with neg := false } : Dc) with tr := false } : Dc) = dc0 := rfl
  have hD1 := hid_of ((h.setNeg false).setTr false)
  rw [e0] at hD1
  have hb1 := hid_of (((Below.refl B w).setCell (p := ⟨g, 802, none⟩) hB (.bool false)).setCell (p := ⟨g, 803, none⟩) hB (.bool false))
  have c2 := h.neg
  have c3 := h.tr
  have f2 := h.frozen 802
  have f3 := h.frozen 803
  clear hR hneg hi0 hl0 hl e0 h
  go_enter Tryz.func78, Tryz.ntmps78
  go_upto_block 0 with fail
  go_cut [5] from 23 to 33 (fun v5 wr => v5 = .int .i64 i0 ∧ DAt wr g { dc0 with neg := neg } ∧ Below B w wr)
  case first =>
    have e1 := HN.out
    have e2 := HI.out
    clear HN HI H0
    by_cases h1 : c0 = 43
    · subst h1
      simp only [show (43 : UInt8) = 45 ↔ False by decide, true_or, if_true, decide_false] at e1 e2
      subst e1 e2
      go_wp2_with fail
      go_meet
      exact ⟨rfl, hD1.out, hb1.out⟩
    · by_cases h2 : c0 = 45
      · subst h2
        simp only [or_true, if_true, decide_true] at e1 e2
        subst e1 e2
        have c2' := hD1.out.neg
        have f2' := hD1.out.frozen 802
        go_wp2_with fail
        go_meet
        exact ⟨rfl, hD1.out.setNeg true, hb1.out.setCell hB _⟩
      · have g1 := ne_k (nat_ne (k := 43) h1 rfl)
        have g2 := ne_k (nat_ne (k := 45) h2 rfl)
        simp only [h1, h2, or_self, if_false, decide_false] at e1 e2
        subst e1 e2
        clear h1 h2
        go_wp2_with fail
        go_meet
        exact ⟨rfl, hD1.out, hb1.out⟩
  case rest =>
  obtain ⟨rfl, hD2, hb2⟩ := hcut
  have HD2 := hid_of hD2
  have HB2 := hid_of hb2
  clear HN HI hne hgl hD1 hb1 c2 c3 f2 f3 hD2 hb2
  have cL := lower_gives
  go_upto_block 1 with fail
  go_cut [5, 6, 7] from 34 to 116 (fun v5 v6 v7 wr => ∃ (s : Dc) (i : Nat) (dot dig : Bool), v5 = .int .i64 i ∧ v6 = .bool dot ∧ v7 = .bool dig ∧ DAt wr g s ∧ Below B w wr ∧ i ≤ l.length ∧ s.Ok ∧ -(i : Int) ≤ s.dp ∧ s.dp ≤ i ∧ s.nd ≤ i ∧ Hid (st1 l (some (i, s, dot, dig)) = R))
  case first =>
    go_wp2_with fail
    go_loopw [5, 6, 7] (fun v5 v6 v7 wr => ∃ (s : Dc) (i : Nat) (dot dig : Bool), v5 = .int .i64 i ∧ v6 = .bool dot ∧ v7 = .bool dig ∧ DAt wr g s ∧ Below B w wr ∧ i ≤ l.length ∧ s.Ok ∧ -(i : Int) ≤ s.dp ∧ s.dp ≤ i ∧ s.nd ≤ i ∧ Hid (st1 l (dl (l.drop i) i s dot dig) = R)) (fun vi _ _ _ => l.length - (intOf vi).toNat)
    case atStart => exact ⟨{ dc0 with neg := neg }, i0, false, false, rfl, rfl, rfl, HD2.out, HB2.out, by omega, dc0_ok neg, by simp [dc0], by simp [dc0], by simp [dc0], H0⟩
    case round =>
    obtain ⟨s, i, dot, dig, rfl, rfl, rfl, hD0, hb, hi, hsok0, hdp0, hdp1, hndi, hq⟩ := hrel
    have hsok := hid_of hsok0
    have hnd8 : s.nd ≤ 800 := hsok0.le
    clear H0 HD2 HB2 cL hsok0
    have hD := hid_of hD0
    have hbb := hid_of hb
    have c0 := hD0.nd
    have c1 := hD0.dp
    have f0 := hD0.frozen 800
    have f1 := hD0.frozen 801
    by_cases hlt : i < l.length
    · have hb8 := UInt8.toNat_lt l[i]
      have hst := hid_of (dl_drop hlt s dot dig)
      by_cases h95 : (l[i].toNat : Int) = 95
      · have hs2 : Hid (dl (l.drop i) i s dot dig = dl (l.drop (i + 1)) (i + 1) s dot dig) := by show _ = _; rw [hst.out, if_pos h95]
        clear hst hD0 hb
        go_wp2_with fail
        refine ⟨⟨s, i + 1, dot, dig, rfl, rfl, rfl, hD.out, hbb.out, by omega, hsok.out, by omega, by omega, by omega, ?_⟩, by simp [intOf]; omega⟩
        show _ = _
        rw [← hs2.out]; exact hq.out
      · have h95' := ne_k h95
        by_cases h46 : (l[i].toNat : Int) = 46
        · cases dot with
          | true =>
            have hr : Hid (R = none) := by show _ = _; rw [← hq.out, hst.out, if_neg h95, if_pos h46]; rfl
            clear hst hq hD0 hb
            go_wp2_with fail
            go_ret
            rw [hr.out]
            exact ⟨hbb.out, rfl⟩
          | false =>
            have hs2 : Hid (dl (l.drop i) i s false dig = dl (l.drop (i + 1)) (i + 1) { s with dp := s.nd } true dig) := by show _ = _; rw [hst.out, if_neg h95, if_pos h46]; rfl
            have hDn := hid_of (hD0.setDp (s.nd : Int))
            have hbn := hid_of (hb.setCell (p := ⟨g, 801, none⟩) hB (.int .i64 (s.nd : Int)))
            have hok2 : Hid (({ s with dp := s.nd } : Dc).Ok) := ⟨hsok.out.le, hsok.out.dig, hsok.out.fst⟩
            clear hst hD0 hb
            go_wp2_with fail
            refine ⟨⟨{ s with dp := s.nd }, i + 1, true, dig, rfl, rfl, rfl, hDn.out, hbn.out, by omega, hok2.out, by simp only []; omega, by simp only []; omega, by simp only []; omega, ?_⟩, by simp [intOf]; omega⟩
            show _ = _
            rw [← hs2.out]; exact hq.out
        · have h46' := ne_k h46
          by_cases d1 : 48 ≤ (l[i].toNat : Int)
          · by_cases d2 : (l[i].toNat : Int) ≤ 57
            · by_cases hz : (l[i].toNat : Int) = 48 ∧ s.nd = 0
              · obtain ⟨hz1, hz2⟩ := hz
                have ha : s.add l[i].toNat = { s with dp := s.dp - 1 } := by unfold Dc.add; rw [if_pos ⟨by omega, hz2⟩]
                have hs2 : Hid (dl (l.drop i) i s dot dig = dl (l.drop (i + 1)) (i + 1) ({ s with dp := s.dp - 1 }) dot true) := by show _ = _; rw [hst.out, if_neg h95, if_neg h46, if_pos ⟨d1, d2⟩, ha]
                have hok2 := hid_of (ha ▸ Dc.add_ok hsok.out (c := l[i].toNat) (by omega))
                have hdp2 := hid_of (ha ▸ Dc.add_dp (c := l[i].toNat) hdp0 hdp1)
                have hDn := hid_of (hD0.setDp (s.dp - 1))
                have hbn := hid_of (hb.setCell (p := ⟨g, 801, none⟩) hB (.int .i64 (s.dp - 1)))
                clear hst hD0 hb ha
                rw [hz2] at c0
                go_wp2_with fail
                refine ⟨⟨{ s with dp := s.dp - 1 }, i + 1, dot, true, rfl, rfl, rfl, hDn.out, hbn.out, by omega, hok2.out, hdp2.out.1, hdp2.out.2, by first | omega | (simp only [Dc.put]; omega), ?_⟩, by simp [intOf]; omega⟩
                show _ = _
                rw [← hs2.out]; exact hq.out
              · by_cases h8 : s.nd < 800
                · by_cases hc48 : (l[i].toNat : Int) = 48
                  · have ha : s.add l[i].toNat = { s.put s.nd l[i].toNat with nd := s.nd + 1 } := by unfold Dc.add; rw [if_neg (fun h => hz ⟨by omega, h.2⟩), if_pos h8]
                    have hs2 : Hid (dl (l.drop i) i s dot dig = dl (l.drop (i + 1)) (i + 1) ({ s.put s.nd l[i].toNat with nd := s.nd + 1 }) dot true) := by show _ = _; rw [hst.out, if_neg h95, if_neg h46, if_pos ⟨d1, d2⟩, ha]
                    have hok2 := hid_of (ha ▸ Dc.add_ok hsok.out (c := l[i].toNat) (by omega))
                    have hdp2 := hid_of (ha ▸ Dc.add_dp (c := l[i].toNat) hdp0 hdp1)
                    have cw := hD0.dig (i := s.nd) h8
                    have fw := hD0.frozen s.nd
                    have hDn := hid_of ((hD0.setDig (i := s.nd) h8 l[i].toNat (x := (48 : Int)) (by omega)).setNd (s.nd + 1) (x := (s.nd : Int) + 1) (by omega))
                    have hbn := hid_of ((hb.setCell (p := ⟨g, s.nd, none⟩) hB (.int .u8 ((48 : Int)))).setCell (p := ⟨g, 800, none⟩) hB (.int .i64 ((s.nd : Int) + 1)))
                    clear hst hD0 hb ha
                    have hn0 : s.nd ≠ 0 := fun h => hz ⟨hc48, h⟩
                    have hn0' : ((s.nd : Int) == 0) = false := by rw [beq_eq_false_iff_ne]; omega
                    clear hz
                    go_wp2_with fail
                    go_region
                    all_goals
                      go_wp2_with fail
                      refine ⟨⟨{ s.put s.nd l[i].toNat with nd := s.nd + 1 }, i + 1, dot, true, rfl, rfl, rfl, hDn.out, hbn.out.drew, by omega, hok2.out, hdp2.out.1, hdp2.out.2, by first | omega | (simp only [Dc.put]; omega), ?_⟩, by simp [intOf]; omega⟩
                      show _ = _
                      rw [← hs2.out]; exact hq.out
                  · have hc48' := ne_k hc48
                    have ha : s.add l[i].toNat = { s.put s.nd l[i].toNat with nd := s.nd + 1 } := by unfold Dc.add; rw [if_neg (fun h => hz ⟨by omega, h.2⟩), if_pos h8]
                    have hs2 : Hid (dl (l.drop i) i s dot dig = dl (l.drop (i + 1)) (i + 1) ({ s.put s.nd l[i].toNat with nd := s.nd + 1 }) dot true) := by show _ = _; rw [hst.out, if_neg h95, if_neg h46, if_pos ⟨d1, d2⟩, ha]
                    have hok2 := hid_of (ha ▸ Dc.add_ok hsok.out (c := l[i].toNat) (by omega))
                    have hdp2 := hid_of (ha ▸ Dc.add_dp (c := l[i].toNat) hdp0 hdp1)
                    have cw := hD0.dig (i := s.nd) h8
                    have fw := hD0.frozen s.nd
                    have hDn := hid_of ((hD0.setDig (i := s.nd) h8 l[i].toNat (x := (l[i].toNat : Int)) (by omega)).setNd (s.nd + 1) (x := (s.nd : Int) + 1) (by omega))
                    have hbn := hid_of ((hb.setCell (p := ⟨g, s.nd, none⟩) hB (.int .u8 ((l[i].toNat : Int)))).setCell (p := ⟨g, 800, none⟩) hB (.int .i64 ((s.nd : Int) + 1)))
                    clear hst hD0 hb ha
                    clear hz
                    go_wp2_with fail
                    go_region
                    all_goals
                      go_wp2_with fail
                      refine ⟨⟨{ s.put s.nd l[i].toNat with nd := s.nd + 1 }, i + 1, dot, true, rfl, rfl, rfl, hDn.out, hbn.out.drew, by omega, hok2.out, hdp2.out.1, hdp2.out.2, by first | omega | (simp only [Dc.put]; omega), ?_⟩, by simp [intOf]; omega⟩
                      show _ = _
                      rw [← hs2.out]; exact hq.out
                · by_cases hc48 : (l[i].toNat : Int) = 48
                  · have ha : s.add l[i].toNat = s := by unfold Dc.add; rw [if_neg (fun h => hz ⟨by omega, h.2⟩), if_neg h8, if_pos (by omega)]
                    have hs2 : Hid (dl (l.drop i) i s dot dig = dl (l.drop (i + 1)) (i + 1) (s) dot true) := by show _ = _; rw [hst.out, if_neg h95, if_neg h46, if_pos ⟨d1, d2⟩, ha]
                    have hok2 := hid_of (ha ▸ Dc.add_ok hsok.out (c := l[i].toNat) (by omega))
                    have hdp2 := hid_of (ha ▸ Dc.add_dp (c := l[i].toNat) hdp0 hdp1)
                    have hDn := hD
                    have hbn := hbb
                    clear hst hD0 hb ha
                    have hn0' : ((s.nd : Int) == 0) = false := by rw [beq_eq_false_iff_ne]; omega
                    go_wp2_with fail
                    refine ⟨⟨s, i + 1, dot, true, rfl, rfl, rfl, hDn.out, hbn.out, by omega, hok2.out, hdp2.out.1, hdp2.out.2, by first | omega | (simp only [Dc.put]; omega), ?_⟩, by simp [intOf]; omega⟩
                    show _ = _
                    rw [← hs2.out]; exact hq.out
                  · have hc48' := ne_k hc48
                    have ha : s.add l[i].toNat = { s with tr := true } := by unfold Dc.add; rw [if_neg (fun h => hz ⟨by omega, h.2⟩), if_neg h8, if_neg (by omega)]
                    have hs2 : Hid (dl (l.drop i) i s dot dig = dl (l.drop (i + 1)) (i + 1) ({ s with tr := true }) dot true) := by show _ = _; rw [hst.out, if_neg h95, if_neg h46, if_pos ⟨d1, d2⟩, ha]
                    have hok2 := hid_of (ha ▸ Dc.add_ok hsok.out (c := l[i].toNat) (by omega))
                    have hdp2 := hid_of (ha ▸ Dc.add_dp (c := l[i].toNat) hdp0 hdp1)
                    have ct := hD0.tr
                    have ft := hD0.frozen 803
                    have hDn := hid_of (hD0.setTr true)
                    have hbn := hid_of (hb.setCell (p := ⟨g, 803, none⟩) hB (.bool true))
                    clear hst hD0 hb ha
                    go_wp2_with fail
                    refine ⟨⟨{ s with tr := true }, i + 1, dot, true, rfl, rfl, rfl, hDn.out, hbn.out, by omega, hok2.out, hdp2.out.1, hdp2.out.2, by first | omega | (simp only [Dc.put]; omega), ?_⟩, by simp [intOf]; omega⟩
                    show _ = _
                    rw [← hs2.out]; exact hq.out
            · have hr := hid_of (hst.out.trans (by rw [if_neg h95, if_neg h46, if_neg (fun h => d2 h.2)]))
              clear hst hD0 hb
              go_wp2_with fail
              go_meet
              refine ⟨s, i, dot, dig, rfl, rfl, rfl, hD.out, hbb.out, by omega, hsok.out, by omega, by omega, by omega, ?_⟩
              show _ = _
              rw [← hq.out, hr.out]
          · have hr := hid_of (hst.out.trans (by rw [if_neg h95, if_neg h46, if_neg (fun h => d1 h.1)]))
            clear hst hD0 hb
            go_wp2_with fail
            go_meet
            refine ⟨s, i, dot, dig, rfl, rfl, rfl, hD.out, hbb.out, by omega, hsok.out, by omega, by omega, by omega, ?_⟩
            show _ = _
            rw [← hq.out, hr.out]
    · have hr := hid_of (dl_end (l := l) (i := i) (by omega) s dot dig)
      clear hD0 hb
      go_wp2_with fail
      go_meet
      refine ⟨s, i, dot, dig, rfl, rfl, rfl, hD.out, hbb.out, by omega, hsok.out, by omega, by omega, by omega, ?_⟩
      show _ = _
      rw [← hq.out, hr.out]
  case rest =>
  obtain ⟨s, i, dot, dig, rfl, rfl, rfl, hD3, hb3, hi, hsok, hdp0, hdp1, hndi, H1⟩ := hcut
  have hnd8 : s.nd ≤ 800 := hsok.le
  have HD3 := hid_of hD3
  have HB3 := hid_of hb3
  clear H0 HD2 HB2 hsok
  cases dig with
  | false =>
    have hr : Hid (R = none) := H1.out.symm
    clear H1 hD3 hb3
    go_wp2_with fail
    go_ret
    rw [hr.out]
    exact ⟨HB3.out, rfl⟩
  | true =>
  obtain ⟨s2, hs2⟩ : ∃ s2 : Dc, s2 = if dot then s else { s with dp := s.nd } := ⟨_, rfl⟩
  have H2 : Hid (st2 l i s2 = R) := by
    show _ = _
    rw [← H1.out, hs2]; rfl
  have hs2a : -1000000000 ≤ s2.dp ∧ s2.dp ≤ 1000000000 := by
    rw [hs2]
    cases dot with
    | true => simp only [if_true]; omega
    | false => simp only [if_false, Bool.false_eq_true]; omega
  obtain ⟨hs2b, hs2c⟩ := hs2a
  have HS2 := hid_of hs2
  clear hs2 H1
  go_upto_if 120 with fail
  go_cut [] from 121 to 127 (fun wr => DAt wr g s2 ∧ Below B w wr)
  case first =>
    have e := HS2.out
    clear HS2 H2
    cases dot with
    | true =>
      simp only [if_true] at e
      subst e
      clear hD3 hb3
      go_wp2_with fail
      go_meet
      exact ⟨HD3.out, HB3.out⟩
    | false =>
      simp only [if_false, Bool.false_eq_true] at e
      have k0 := hD3.nd
      have k1 := hD3.dp
      have q1 := hD3.frozen 801
      clear hD3 hb3
      go_wp2_with fail
      go_meet
      rw [e]
      exact ⟨HD3.out.setDp _, HB3.out.setCell hB _⟩
  case rest =>
  obtain ⟨hD4, hb4⟩ := hcut
  have HD4 := hid_of hD4
  have HB4 := hid_of hb4
  clear HS2 HD3 HB3 hD3 hb3 hD4 hb4
  obtain ⟨he, hhe⟩ : ∃ he, he = (decide (i < l.length) && (lowI (gt l i) == 101)) := ⟨_, rfl⟩
  have HE := hid_of hhe
  clear hhe
  go_upto_region 32 with fail
  go_cut [138] from 128 to 137 (fun v wr => v = .bool he ∧ DAt wr g s2 ∧ Below B w wr)
  case first =>
    have e1 := HE.out
    clear HE H2
    by_cases hlt : i < l.length
    · obtain ⟨Q, hQ⟩ : ∃ Q, lowI l[i].toNat = Q := ⟨_, rfl⟩
      have cB : Gives 90 #[.int .u8 l[i].toNat] (.int .u8 Q) := hQ ▸ cL l[i].toNat
      rw [gt_eq hlt, hQ] at e1
      have e2 : he = (Q == 101) := by rw [e1]; simp [hlt]
      clear e1 hQ cL
      subst e2
      go_wp2_with (go_at_call 90; go_fit (cB _); rintro e w' ⟨rfl, rfl⟩)
      go_meet
      exact ⟨rfl, HD4.out, HB4.out⟩
    · have e2 : he = false := by rw [e1]; simp [hlt]
      clear e1
      subst e2
      go_wp2_with fail
      go_meet
      exact ⟨rfl, HD4.out, HB4.out⟩
  case rest =>
  obtain ⟨rfl, hD5, hb5⟩ := hcut
  have HD5 := hid_of hD5
  have HB5 := hid_of hb5
  clear HD4 HB4 cL
  go_upto_if 138 with fail
  go_cut [5, 8, 9] from 139 to 219 (fun v5 v8 v9 wr => ∃ (i' : Nat) (s' : Dc), v5 = .int .i64 i' ∧ DAt wr g s' ∧ Below B w wr ∧ i' ≤ l.length ∧ Hid (st4 l i' s' = R))
  case first =>
    cases he with
    | false =>
      have hnh : ¬ (i < l.length ∧ lowI (gt l i) = 101) := by
        rintro ⟨h1, h2⟩
        have := HE.out
        simp [h1, h2] at this
      have H4 : Hid (st4 l i s2 = R) := by
        show _ = _
        rw [← H2.out, st2, if_neg hnh]
      clear H2 HE hnh hD5 hb5
      go_wp2_with fail
      go_meet
      exact ⟨i, s2, rfl, HD5.out, HB5.out, by omega, H4⟩
    | true =>
      have hh : i < l.length ∧ lowI (gt l i) = 101 := by
        have := HE.out.symm
        simpa using this
      have H4 : Hid ((if i + 1 < l.length then
          (if gt l (i + 1) = 43 then st3 l (i + 2) s2 1
           else if gt l (i + 1) = 45 then st3 l (i + 2) s2 (-1)
           else st3 l (i + 1) s2 1)
         else none) = R) := by
        show _ = _
        rw [← H2.out, st2, if_pos hh]
      have hlt := hh.1
      clear H2 HE hh hD5 hb5
      by_cases h1 : i + 1 < l.length
      · rw [if_pos h1] at H4
        obtain ⟨i2, hi2⟩ : ∃ i2 : Nat, i2 = if gt l (i + 1) = 43 ∨ gt l (i + 1) = 45 then i + 2 else i + 1 := ⟨_, rfl⟩
        obtain ⟨sg, hsg⟩ : ∃ sg : Int, sg = if gt l (i + 1) = 45 then -1 else 1 := ⟨_, rfl⟩
        have H5 : Hid (st3 l i2 s2 sg = R) := by
          show _ = _
          rw [← H4.out, hi2, hsg]
          by_cases g1 : gt l (i + 1) = 43
          · rw [if_pos g1, g1]; rfl
          · rw [if_neg g1]
            by_cases g2 : gt l (i + 1) = 45
            · rw [if_pos g2, g2]; rfl
            · rw [if_neg g2, if_neg g2, if_neg (by rintro (h | h); exact g1 h; exact g2 h)]
        have hi2' : i2 ≤ l.length := by rw [hi2]; split <;> omega
        have hsg' : sg = 1 ∨ sg = -1 := by rw [hsg]; split <;> omega
        rw [gt_eq h1] at hi2 hsg
        have HI2 := hid_of hi2
        have HSG := hid_of hsg
        clear H4 hi2 hsg
        have hb8 := UInt8.toNat_lt l[i + 1]
        go_upto_block 4 with fail
        go_cut [5, 8] from 145 to 155 (fun v5 v8 wr => v5 = .int .i64 i2 ∧ v8 = .int .i64 sg ∧ DAt wr g s2 ∧ Below B w wr)
        case first =>
          have e1 := HI2.out
          have e2 := HSG.out
          clear HI2 HSG H5
          by_cases g1 : (l[i + 1].toNat : Int) = 43
          · rw [if_pos (.inl g1)] at e1
            rw [if_neg (by omega)] at e2
            subst e1 e2
            go_wp2_with fail
            go_meet
            exact ⟨rfl, rfl, HD5.out, HB5.out⟩
          · by_cases g2 : (l[i + 1].toNat : Int) = 45
            · rw [if_pos (.inr g2)] at e1
              rw [if_pos g2] at e2
              subst e1 e2
              have g1' := ne_k g1
              go_wp2_with fail
              go_meet
              exact ⟨rfl, rfl, HD5.out, HB5.out⟩
            · rw [if_neg (by omega)] at e1
              rw [if_neg g2] at e2
              subst e1 e2
              have g1' := ne_k g1
              have g2' := ne_k g2
              go_wp2_with fail
              go_meet
              exact ⟨rfl, rfl, HD5.out, HB5.out⟩
        case rest =>
        obtain ⟨rfl, rfl, hD6, hb6⟩ := hcut
        have HD6 := hid_of hD6
        have HB6 := hid_of hb6
        clear HI2 HSG hD6 hb6 HD5 HB5
        obtain ⟨bad, hbad⟩ : ∃ bad, bad = !(decide (i2 < l.length) && decide (48 ≤ gt l i2) && decide (gt l i2 ≤ 57)) := ⟨_, rfl⟩
        have HBD := hid_of hbad
        clear hbad
        go_upto_region 42 with fail
        go_cut [171] from 156 to 170 (fun v wr => v = .bool bad ∧ DAt wr g s2 ∧ Below B w wr)
        case first =>
          have e1 := HBD.out
          clear HBD H5
          by_cases h2 : i2 < l.length
          · rw [gt_eq h2] at e1
            by_cases d1 : 48 ≤ (l[i2].toNat : Int)
            · by_cases d2 : (l[i2].toNat : Int) ≤ 57
              · have e2 : bad = false := by rw [e1]; simp [h2, d1, d2]
                clear e1
                subst e2
                go_wp2_with fail
                go_meet
                exact ⟨by first | rfl | (simp; omega), HD6.out, HB6.out⟩
              · have e2 : bad = true := by rw [e1]; simp [h2, d1, d2]
                clear e1
                subst e2
                go_wp2_with fail
                go_meet
                exact ⟨rfl, HD6.out, HB6.out⟩
            · have e2 : bad = true := by rw [e1]; simp [h2, d1]
              clear e1
              subst e2
              go_wp2_with fail
              go_meet
              exact ⟨rfl, HD6.out, HB6.out⟩
          · have e2 : bad = true := by rw [e1]; simp [h2]
            clear e1
            subst e2
            go_wp2_with fail
            go_meet
            exact ⟨rfl, HD6.out, HB6.out⟩
        case rest =>
        obtain ⟨rfl, hD7, hb7⟩ := hcut
        have HD7 := hid_of hD7
        have HB7 := hid_of hb7
        clear HD6 HB6 hD7 hb7
        cases bad with
        | true =>
          have hr : Hid (R = none) := by
            show _ = _
            rw [← H5.out, st3, if_neg]
            rintro ⟨k1, k2, k3⟩
            have := HBD.out
            simp [k1, k2, k3] at this
          clear H5 HBD
          go_wp2_with fail
          go_ret
          rw [hr.out]
          exact ⟨HB7.out, rfl⟩
        | false =>
          have H6 : Hid (st4 l (el (l.drop i2) i2 0 false).1 { s2 with dp := s2.dp + (el (l.drop i2) i2 0 false).2.1 * sg } = R) := by
            show _ = _
            rw [← H5.out, st3, if_pos]
            have := HBD.out
            simp at this
            exact ⟨this.1.1, this.1.2, this.2⟩
          clear H5 HBD
          go_wp2_with fail
          go_loopw [5, 9] (fun v5 v9 wr => ∃ (j : Nat) (ub : Bool) (e : Int), v5 = .int .i64 j ∧ v9 = .int .i64 e ∧ DAt wr g s2 ∧ Below B w wr ∧ j ≤ l.length ∧ 0 ≤ e ∧ e ≤ 200000 ∧ Hid (st4 l (el (l.drop j) j e ub).1 { s2 with dp := s2.dp + (el (l.drop j) j e ub).2.1 * sg } = R)) (fun vi _ _ => l.length - (intOf vi).toNat)
          case atStart => exact ⟨i2, false, 0, rfl, rfl, HD7.out, HB7.out, hi2', by omega, by omega, H6⟩
          case round =>
          obtain ⟨j, ub, e, rfl, rfl, hD8, hb8', hj, he0, he1, hq⟩ := hrel
          have HD8 := hid_of hD8
          have HB8 := hid_of hb8'
          have k1 := hD8.dp
          have q1 := hD8.frozen 801
          clear H6 HD7 HB7 hD8 hb8'
          by_cases hjl : j < l.length
          · have hst := hid_of (el_drop hjl e ub)
            have hc8 := UInt8.toNat_lt l[j]
            by_cases g95 : (l[j].toNat : Int) = 95
            · have hs3 : Hid (el (l.drop j) j e ub = el (l.drop (j + 1)) (j + 1) e true) := by show _ = _; rw [hst.out, if_pos g95]
              clear hst
              go_wp2_with fail
              refine ⟨⟨j + 1, true, e, rfl, rfl, HD8.out, HB8.out, by omega, by omega, by omega, ?_⟩, by simp [intOf]; omega⟩
              show _ = _
              rw [← hs3.out]; exact hq.out
            · have g95' := ne_k g95
              by_cases d1 : 48 ≤ (l[j].toNat : Int)
              · by_cases d2 : (l[j].toNat : Int) ≤ 57
                · by_cases hee : e < 10000
                  · have hs3 : Hid (el (l.drop j) j e ub = el (l.drop (j + 1)) (j + 1) (e * 10 + l[j].toNat - 48) ub) := by show _ = _; rw [hst.out, if_neg g95, if_pos ⟨d1, d2⟩, if_pos hee]
                    clear hst
                    go_wp2_with fail
                    refine ⟨⟨j + 1, ub, e * 10 + l[j].toNat - 48, rfl, rfl, HD8.out, HB8.out, by omega, by omega, by omega, ?_⟩, by simp [intOf]; omega⟩
                    show _ = _
                    rw [← hs3.out]; exact hq.out
                  · have hs3 : Hid (el (l.drop j) j e ub = el (l.drop (j + 1)) (j + 1) e ub) := by show _ = _; rw [hst.out, if_neg g95, if_pos ⟨d1, d2⟩, if_neg hee]
                    clear hst
                    go_wp2_with fail
                    refine ⟨⟨j + 1, ub, e, rfl, rfl, HD8.out, HB8.out, by omega, by omega, by omega, ?_⟩, by simp [intOf]; omega⟩
                    show _ = _
                    rw [← hs3.out]; exact hq.out
                · have hs3 : Hid (el (l.drop j) j e ub = (j, e, ub)) := by show _ = _; rw [hst.out, if_neg g95, if_neg (fun h => d2 h.2)]
                  clear hst
                  rcases hsg' with rfl | rfl
                  all_goals
                    go_wp2_with fail
                    go_meet
                    refine ⟨j, _, rfl, HD8.out.setDp _, HB8.out.setCell hB _, by omega, ?_⟩
                    show _ = _
                    rw [← hq.out, hs3.out]; simp [Int.mul_neg]
              · have hs3 : Hid (el (l.drop j) j e ub = (j, e, ub)) := by show _ = _; rw [hst.out, if_neg g95, if_neg (fun h => d1 h.1)]
                clear hst
                rcases hsg' with rfl | rfl
                all_goals
                  go_wp2_with fail
                  go_meet
                  refine ⟨j, _, rfl, HD8.out.setDp _, HB8.out.setCell hB _, by omega, ?_⟩
                  show _ = _
                  rw [← hq.out, hs3.out]; simp [Int.mul_neg]
          · have hs3 := hid_of (el_end (l := l) (i := j) (by omega) e ub)
            rcases hsg' with rfl | rfl
            all_goals
              go_wp2_with fail
              go_meet
              refine ⟨j, _, rfl, HD8.out.setDp _, HB8.out.setCell hB _, by omega, ?_⟩
              show _ = _
              rw [← hq.out, hs3.out]; simp [Int.mul_neg]
      · rw [if_neg h1] at H4
        have hr : Hid (R = none) := H4.out.symm
        clear H4
        go_wp2_with fail
        go_ret
        rw [hr.out]
        exact ⟨HB5.out, rfl⟩
  case rest =>
  obtain ⟨i', s', rfl, hD9, hb9, hi', H9⟩ := hcut
  have HD9 := hid_of hD9
  have HB9 := hid_of hb9
  clear hD9 hb9 HD5 HB5 HE H2 hD5 hb5
  by_cases hfin : i' = l.length
  · have hr : Hid (R = some s') := by show _ = _; rw [← H9.out, st4, if_pos hfin]
    have hfin' : ((i' : Int) != (l.length : Int)) = false := by rw [hfin]; simp
    clear H9 hfin
    go_wp2_with fail
    go_ret
    rw [hr.out]
    exact ⟨HB9.out, rfl, HD9.out⟩
  · have hr : Hid (R = none) := by show _ = _; rw [← H9.out, st4, if_neg hfin]
    have hfin' : ((i' : Int) != (l.length : Int)) = true := by rw [bne_iff_ne]; omega
    clear H9
    go_wp2_with fail
    go_ret
    rw [hr.out]
    exact ⟨HB9.out, rfl⟩
end Go.Proofs.Qxb6606206aGreatDoor
