import Derived.Test.Qxb6606206aGreatDoorW5
import Derived.Test.Qxb6606206aGreatDoorL4
import Derived.Deep.CutBlock
set_option linter.unusedSimpArgs false
set_option linter.unusedVariables false
namespace Go.Proofs.Qxb6606206aGreatDoor
open Go Go.RowKit
attribute [local go_sem] str_size str_get str_extract str_toList str_append

noncomputable def uokF (l : List UInt8) : Bool := open Classical in if h : l.length ≤ 1000000000 then Classical.choose (uok_gives l h) else false
theorem uokF_gives (l : List UInt8) (h : l.length ≤ 1000000000) : Gives 91 #[.string (str l)] (.bool (uokF l)) := by
  unfold uokF
  rw [dif_pos h]
  exact Classical.choose_spec (uok_gives l h)

theorem results_tmp7 {fn : Func} {t u v x y z a : Tmp} (h : fn.results = #[.tmp t, .tmp u, .tmp v, .tmp x, .tmp y, .tmp z, .tmp a]) (tmps : Array Value) (P : Program) (w : World) :
    (results fn tmps).run P w = .ok (.tuple #[tmps.getD t undef, tmps.getD u undef, tmps.getD v undef, tmps.getD x undef, tmps.getD y undef, tmps.getD z undef, tmps.getD a undef]) w := by
  simp [results, h]

theorem lowI_ok (c : Int) : 0 ≤ lowI c ∧ lowI c ≤ 255 := wrap_within .u8 _

set_option maxHeartbeats 12800000 in
set_option maxRecDepth 20000 in
theorem rf_nil : Gives 72 #[.string (str [])] (rf uokF []).val := by
  intro w
  go_enter Tryz.func72, Tryz.ntmps72
  go_wp2
  go_step3
  go_wp2
  simp only [Exit.noGoto_ret]
  refine bodyPost_ret (results_tmp7 rfl _ _ _) rfl ?_
  exact ⟨rfl, rfl⟩

set_option maxHeartbeats 12800000 in
set_option maxRecDepth 20000 in
theorem rf_gives (c0 : UInt8) (t0 : List UInt8) (hl0 : (c0 :: t0).length ≤ 1000000000) : Gives 72 #[.string (str (c0 :: t0))] (rf uokF (c0 :: t0)).val := by
  intro w
  obtain ⟨l, hl⟩ : ∃ l, c0 :: t0 = l := ⟨_, rfl⟩
  obtain ⟨neg, hneg⟩ : ∃ neg, neg = decide (c0 = 45) := ⟨_, rfl⟩
  obtain ⟨i0, hi0⟩ : ∃ i0 : Nat, i0 = if c0 = 43 ∨ c0 = 45 then 1 else 0 := ⟨_, rfl⟩
  obtain ⟨R, hR⟩ : ∃ R, rf uokF (c0 :: t0) = R := ⟨_, rfl⟩
  have H0 : Hid (rf0 uokF l neg i0 = R) := by
    show _ = _
    rw [← hR, rf, hi0, hneg, ← hl]
    by_cases h1 : c0 = 43
    · subst h1; rfl
    · by_cases h2 : c0 = 45
      · subst h2; rfl
      · simp [h1, h2]
  have hlen : 1 ≤ l.length := by rw [← hl]; simp
  have hne : l ≠ [] := by rw [← hl]; simp
  have hlen' : l.length ≤ 1000000000 := by rw [← hl]; exact hl0
  have hi0' : i0 ≤ 1 := by rw [hi0]; split <;> omega
  have hg0 : Hid (gt l 0 = c0.toNat) := by show _ = _; rw [← hl]; rfl
  have hgl : (l[0]'hlen) = c0 := by subst hl; rfl
  rw [hR, hl]
  have HN := hid_of hneg
  have HI := hid_of hi0
  clear hR hneg hi0 hl0 hl
  go_enter Tryz.func72, Tryz.ntmps72
  go_wp2_with fail
  go_step3
  go_upto_block 0 with fail
  go_cut [4, 7] from 28 to 35 (fun v4 v7 wr => v4 = .bool neg ∧ v7 = .int .i64 i0 ∧ wr = w)
  case first =>
    have e1 := HN.out
    have e2 := HI.out
    clear HN HI H0 hg0
    by_cases h1 : c0 = 43
    · subst h1
      simp only [show (43 : UInt8) = 45 ↔ False by decide, true_or, if_true, decide_false] at e1 e2
      subst e1 e2
      go_wp2
      go_meet
      exact ⟨rfl, rfl, rfl⟩
    · by_cases h2 : c0 = 45
      · subst h2
        simp only [or_true, if_true, decide_true] at e1 e2
        subst e1 e2
        go_wp2
        go_meet
        exact ⟨rfl, rfl, rfl⟩
      · have g1 := ne_k (nat_ne (k := 43) h1 rfl)
        have g2 := ne_k (nat_ne (k := 45) h2 rfl)
        simp only [h1, h2, or_self, if_false, decide_false] at e1 e2
        subst e1 e2
        clear h1 h2
        go_wp2
        go_meet
        exact ⟨rfl, rfl, rfl⟩
  case rest =>
  obtain ⟨rfl, rfl, hw⟩ := hcut
  have hw' := hw.symm
  subst hw'
  clear hw HN HI hne hg0 hgl
  have cL := lower_gives
  obtain ⟨hex, hhex⟩ : ∃ hex, hex = isHex l i0 := ⟨_, rfl⟩
  have HX := hid_of hhex
  clear hhex
  go_upto_region 12 with fail
  go_cut [54] from 36 to 53 (fun v wr => v = .bool hex ∧ wr = w)
  case first =>
    have e1 := HX.out
    subst e1
    clear HX H0
    by_cases h1 : i0 + 2 < l.length
    · have h0 : i0 < l.length := by omega
      have h2 : i0 + 1 < l.length := by omega
      have hi : isHex l i0 = (((l[i0].toNat : Int) == 48) && (lowI l[i0 + 1].toNat == 120)) := by
        rw [← gt_eq h0, ← gt_eq h2]
        simp [isHex, h1]
      have HI := hid_of hi
      have cB := cL l[i0 + 1].toNat
      obtain ⟨B, hB⟩ : ∃ B, lowI l[i0 + 1].toNat = B := ⟨_, rfl⟩
      rw [hB] at cB
      rw [hB] at HI
      clear hi cL hB
      cases a1 : ((l[i0].toNat : Int) == 48) with
      | true =>
        rw [a1] at HI
        cases a2 : (B == 120) with
        | true =>
          rw [a2] at HI
          go_wp2_with (go_at_call 90; go_fit (cB _); rintro e w' ⟨rfl, rfl⟩)
          go_meet
          rw [HI.out]
          exact ⟨rfl, rfl⟩
        | false =>
          rw [a2] at HI
          go_wp2_with (go_at_call 90; go_fit (cB _); rintro e w' ⟨rfl, rfl⟩)
          go_meet
          rw [HI.out]
          exact ⟨rfl, rfl⟩
      | false =>
        rw [a1] at HI
        go_wp2_with (go_at_call 90; go_fit (cB _); rintro e w' ⟨rfl, rfl⟩)
        go_meet
        rw [HI.out]
        exact ⟨rfl, rfl⟩
    · have hi : Hid (isHex l i0 = false) := by show _ = _; simp [isHex, h1]
      go_wp2
      go_meet
      rw [hi.out]
      exact ⟨rfl, rfl⟩
  case rest =>
  obtain ⟨rfl, hw⟩ := hcut
  have hw' := hw.symm
  subst hw'
  clear hw
  obtain ⟨i1, hi1⟩ : ∃ i1, i1 = if hex then i0 + 2 else i0 := ⟨_, rfl⟩
  have H1 : Hid (rf1 uokF l neg hex i1 = R) := by show _ = _; rw [← H0.out, rf0, hi1, HX.out]
  have hi1' : i1 ≤ l.length := by
    rw [hi1]
    cases hex with
    | true => have := isHex_len HX.out.symm; simp; omega
    | false => simp; omega
  have HI1 := hid_of hi1
  clear hi1 H0 HX
  go_upto_if 54 with fail
  go_cut [6, 7, 10, 11, 12] from 55 to 56 (fun v6 v7 v10 v11 v12 wr => v6 = .bool hex ∧ v7 = .int .i64 i1 ∧ v10 = .int .u64 (bas hex) ∧ v11 = .int .i64 (mxm hex) ∧ v12 = .int .u8 (expc hex) ∧ wr = w)
  case first =>
    have e1 := HI1.out
    clear HI1 H1
    cases hex with
    | true =>
      simp only [if_true] at e1
      subst e1
      go_wp2
      go_meet
      exact ⟨rfl, rfl, rfl, rfl, rfl, rfl⟩
    | false =>
      simp only [if_false, Bool.false_eq_true] at e1
      subst e1
      go_wp2
      go_meet
      exact ⟨rfl, rfl, rfl, rfl, rfl, rfl⟩
  case rest =>
  obtain ⟨rfl, rfl, rfl, rfl, rfl, hw⟩ := hcut
  have hw' := hw.symm
  subst hw'
  clear hw HI1
  go_wp2_with fail
  go_step3
  go_upto_block 1 with fail
  go_cut [2, 5, 7, 9, 13, 14, 15, 16, 17, 18] from 57 to 138 (fun v2 v5 v7 v9 v13 v14 v15 v16 v17 v18 wr => ∃ (s : RS) (i : Nat), v2 = .int .u64 s.m ∧ v5 = .bool s.tr ∧ v7 = .int .i64 i ∧ v9 = .bool s.und ∧ v13 = .bool s.dot ∧ v14 = .bool s.dig ∧ v15 = .int .i64 s.nd ∧ v16 = .int .i64 s.ndm ∧ v17 = .int .i64 s.dp ∧ wr = w ∧ i ≤ l.length ∧ RSok i s ∧ Hid (rf2 uokF l neg hex s i = R))
  case first =>
    go_wp2_with fail
    go_loopw [2, 5, 7, 9, 13, 14, 15, 16, 17] (fun v2 v5 v7 v9 v13 v14 v15 v16 v17 wr => ∃ (s : RS) (i : Nat), v2 = .int .u64 s.m ∧ v5 = .bool s.tr ∧ v7 = .int .i64 i ∧ v9 = .bool s.und ∧ v13 = .bool s.dot ∧ v14 = .bool s.dig ∧ v15 = .int .i64 s.nd ∧ v16 = .int .i64 s.ndm ∧ v17 = .int .i64 s.dp ∧ wr = w ∧ i ≤ l.length ∧ RSok i s ∧ Hid (rf2 uokF l neg hex (rl hex (l.drop i) i s).1 (rl hex (l.drop i) i s).2 = R)) (fun _ _ vi _ _ _ _ _ _ _ => l.length - (intOf vi).toNat)
    case atStart => exact ⟨⟨0, false, false, false, false, 0, 0, 0⟩, i1, rfl, rfl, rfl, rfl, rfl, rfl, rfl, rfl, rfl, rfl, hi1', ⟨by simp, by simp, by simp, by simp, by simp only []; omega, by simp only []; omega⟩, H1⟩
    case round =>
    obtain ⟨s, i, rfl, rfl, rfl, rfl, rfl, rfl, rfl, rfl, rfl, rfl, hi, hok0, hq⟩ := hrel
    have hok := hid_of hok0
    obtain ⟨m0, m1, hnd, hndm, hdp0, hdp1⟩ := hok0
    obtain ⟨m, tr, und, dot, dig, nd, ndm, dp⟩ := s
    simp only [] at m0 m1 hnd hndm hdp0 hdp1
    clear H1 hi1'
    by_cases hlt : i < l.length
    · have hb8 := UInt8.toNat_lt l[i]
      obtain ⟨B, hB⟩ : ∃ B, lowI l[i].toNat = B := ⟨_, rfl⟩
      have cB : Gives 90 #[.int .u8 l[i].toNat] (.int .u8 B) := hB ▸ cL l[i].toNat
      have hBk : 0 ≤ B ∧ B ≤ 255 := hB ▸ lowI_ok _
      obtain ⟨hBk0, hBk1⟩ := hBk
      have HB := hid_of hB
      clear hB cL
      by_cases h95 : (l[i].toNat : Int) = 95
      · have hE : rstep hex l[i].toNat ⟨m, tr, und, dot, dig, nd, ndm, dp⟩ = some ⟨m, tr, true, dot, dig, nd, ndm, dp⟩ := by simp [rstep, h95]
        have hst := hid_of (rl_some hlt hE)
        have hok' := hid_of (rstep_ok hok.out hE)
        clear hE hok
        go_wp2_with (go_at_call 90; go_fit (cB _); rintro e w' ⟨rfl, rfl⟩)
        all_goals
          refine ⟨⟨⟨m, tr, true, dot, dig, nd, ndm, dp⟩, i + 1, by first | rfl | assumption | simp [hc48], rfl, rfl, rfl, rfl, rfl, rfl, rfl, rfl, by trivial, by omega, hok'.out, ?_⟩, by simp [intOf]; omega⟩
          show _ = _
          rw [← hst.out]; exact hq.out
      · have h95' := ne_k h95
        by_cases h46 : (l[i].toNat : Int) = 46
        · cases dot with
          | true =>
            have hE : rstep hex l[i].toNat ⟨m, tr, und, true, dig, nd, ndm, dp⟩ = none := by simp [rstep, h46]
            have hst := hid_of (rl_none hlt hE)
            clear hE
            go_wp2_with (go_at_call 90; go_fit (cB _); rintro e w' ⟨rfl, rfl⟩)
            all_goals
              go_meet
              refine ⟨⟨m, tr, und, true, dig, nd, ndm, dp⟩, i, rfl, rfl, rfl, rfl, rfl, rfl, rfl, rfl, rfl, by trivial, by omega, hok.out, ?_⟩
              show _ = _
              rw [← hq.out, hst.out]
          | false =>
            have hE : rstep hex l[i].toNat ⟨m, tr, und, false, dig, nd, ndm, dp⟩ = some ⟨m, tr, und, true, dig, nd, ndm, nd⟩ := by simp [rstep, h46]
            have hst := hid_of (rl_some hlt hE)
            have hok' := hid_of (rstep_ok hok.out hE)
            clear hE hok
            go_wp2_with (go_at_call 90; go_fit (cB _); rintro e w' ⟨rfl, rfl⟩)
            all_goals
              refine ⟨⟨⟨m, tr, und, true, dig, nd, ndm, nd⟩, i + 1, by first | rfl | assumption | simp [hc48], rfl, rfl, rfl, rfl, rfl, rfl, rfl, rfl, by trivial, by omega, hok'.out, ?_⟩, by simp [intOf]; omega⟩
              show _ = _
              rw [← hst.out]; exact hq.out
        · have h46' := ne_k h46
          by_cases hd1' : 48 ≤ (l[i].toNat : Int)
          · by_cases hd2' : (l[i].toNat : Int) ≤ 57
            · by_cases hz : (l[i].toNat : Int) = 48 ∧ nd = 0
              · obtain ⟨hz1, hz2⟩ := hz
                subst hz2
                have hE : rstep hex l[i].toNat ⟨m, tr, und, dot, dig, 0, ndm, dp⟩ = some ⟨m, tr, und, dot, true, 0, ndm, dp - 1⟩ := by simp [rstep, hz1]
                have hst := hid_of (rl_some hlt hE)
                have hok' := hid_of (rstep_ok hok.out hE)
                clear hE hok
                go_wp2_with (go_at_call 90; go_fit (cB _); rintro e w' ⟨rfl, rfl⟩)
                all_goals
                  refine ⟨⟨⟨m, tr, und, dot, true, 0, ndm, dp - 1⟩, i + 1, by first | rfl | assumption | simp [hc48], rfl, rfl, rfl, rfl, rfl, rfl, rfl, rfl, by trivial, by omega, hok'.out, ?_⟩, by simp [intOf]; omega⟩
                  show _ = _
                  rw [← hst.out]; exact hq.out
              · have hz' : Hid (¬ ((l[i].toNat : Int) = 48 ∧ nd = 0)) := hz
                by_cases hm : ndm < mxm hex
                · by_cases hc48 : (l[i].toNat : Int) = 48
                  · have hn0 : nd ≠ 0 := fun h => hz'.out ⟨hc48, h⟩
                    have hn0' : ((nd : Int) == 0) = false := by rw [beq_eq_false_iff_ne]; omega
                    have hE : rstep hex l[i].toNat ⟨m, tr, und, dot, dig, nd, ndm, dp⟩ = some ⟨IntKind.u64.wrap (IntKind.u64.wrap (m * bas hex) + (l[i].toNat - 48)), tr, und, dot, true, nd + 1, ndm + 1, dp⟩ := by simp [rstep, hc48, hn0, hm]
                    have hst := hid_of (rl_some hlt hE)
                    have hok' := hid_of (rstep_ok hok.out hE)
                    clear hE hok
                    go_wp2_with (go_at_call 90; go_fit (cB _); rintro e w' ⟨rfl, rfl⟩)
                    all_goals
                      refine ⟨⟨⟨IntKind.u64.wrap (IntKind.u64.wrap (m * bas hex) + (l[i].toNat - 48)), tr, und, dot, true, nd + 1, ndm + 1, dp⟩, i + 1, by first | rfl | assumption | simp [hc48], rfl, rfl, rfl, rfl, rfl, rfl, rfl, rfl, by trivial, by omega, hok'.out, ?_⟩, by simp [intOf]; omega⟩
                      show _ = _
                      rw [← hst.out]; exact hq.out
                  · have hc48' := ne_k hc48
                    have hE : rstep hex l[i].toNat ⟨m, tr, und, dot, dig, nd, ndm, dp⟩ = some ⟨IntKind.u64.wrap (IntKind.u64.wrap (m * bas hex) + (l[i].toNat - 48)), tr, und, dot, true, nd + 1, ndm + 1, dp⟩ := by simp [rstep, hc48, h95, h46, hd1', hd2', hm]
                    have hst := hid_of (rl_some hlt hE)
                    have hok' := hid_of (rstep_ok hok.out hE)
                    clear hE hok
                    go_wp2_with (go_at_call 90; go_fit (cB _); rintro e w' ⟨rfl, rfl⟩)
                    all_goals
                      refine ⟨⟨⟨IntKind.u64.wrap (IntKind.u64.wrap (m * bas hex) + (l[i].toNat - 48)), tr, und, dot, true, nd + 1, ndm + 1, dp⟩, i + 1, by first | rfl | assumption | simp [hc48], rfl, rfl, rfl, rfl, rfl, rfl, rfl, rfl, by trivial, by omega, hok'.out, ?_⟩, by simp [intOf]; omega⟩
                      show _ = _
                      rw [← hst.out]; exact hq.out
                · by_cases hc48 : (l[i].toNat : Int) = 48
                  · have hn0 : nd ≠ 0 := fun h => hz'.out ⟨hc48, h⟩
                    have hn0' : ((nd : Int) == 0) = false := by rw [beq_eq_false_iff_ne]; omega
                    have hE : rstep hex l[i].toNat ⟨m, tr, und, dot, dig, nd, ndm, dp⟩ = some ⟨m, tr, und, dot, true, nd + 1, ndm, dp⟩ := by simp [rstep, hc48, hn0, hm]
                    have hst := hid_of (rl_some hlt hE)
                    have hok' := hid_of (rstep_ok hok.out hE)
                    clear hE hok
                    go_wp2_with (go_at_call 90; go_fit (cB _); rintro e w' ⟨rfl, rfl⟩)
                    all_goals
                      refine ⟨⟨⟨m, tr, und, dot, true, nd + 1, ndm, dp⟩, i + 1, by first | rfl | assumption | simp [hc48], rfl, rfl, rfl, rfl, rfl, rfl, rfl, rfl, by trivial, by omega, hok'.out, ?_⟩, by simp [intOf]; omega⟩
                      show _ = _
                      rw [← hst.out]; exact hq.out
                  · have hc48' := ne_k hc48
                    have hE : rstep hex l[i].toNat ⟨m, tr, und, dot, dig, nd, ndm, dp⟩ = some ⟨m, true, und, dot, true, nd + 1, ndm, dp⟩ := by simp [rstep, hc48, h95, h46, hd1', hd2', hm]
                    have hst := hid_of (rl_some hlt hE)
                    have hok' := hid_of (rstep_ok hok.out hE)
                    clear hE hok
                    go_wp2_with (go_at_call 90; go_fit (cB _); rintro e w' ⟨rfl, rfl⟩)
                    all_goals
                      refine ⟨⟨⟨m, true, und, dot, true, nd + 1, ndm, dp⟩, i + 1, by first | rfl | assumption | simp [hc48], rfl, rfl, rfl, rfl, rfl, rfl, rfl, rfl, by trivial, by omega, hok'.out, ?_⟩, by simp [intOf]; omega⟩
                      show _ = _
                      rw [← hst.out]; exact hq.out
            · cases hex with
              | false =>
                have hE : rstep false l[i].toNat ⟨m, tr, und, dot, dig, nd, ndm, dp⟩ = none := by simp [rstep, h95, h46, hd1', hd2']
                have hst := hid_of (rl_none hlt hE)
                clear hE
                have hb16 : (bas false == 16) = false := rfl
                go_wp2_with (go_at_call 90; go_fit (cB _); rintro e w' ⟨rfl, rfl⟩)
                all_goals
                  go_meet
                  refine ⟨⟨m, tr, und, dot, dig, nd, ndm, dp⟩, i, rfl, rfl, rfl, rfl, rfl, rfl, rfl, rfl, rfl, by trivial, by omega, hok.out, ?_⟩
                  show _ = _
                  rw [← hq.out, hst.out]
              | true =>
                have hb16 : (bas true == 16) = true := rfl
                have hlow : lowI l[i].toNat = B := HB.out
                by_cases a1 : 97 ≤ B
                · by_cases a2 : B ≤ 102
                  · by_cases hm : ndm < mxm true
                    · have hE : rstep true l[i].toNat ⟨m, tr, und, dot, dig, nd, ndm, dp⟩ = some ⟨IntKind.u64.wrap (IntKind.u64.wrap (m * 16) + (B - 97 + 10)), tr, und, dot, true, nd + 1, ndm + 1, dp⟩ := by simp [rstep, h95, h46, hd1', hd2', hlow, a1, a2, hm]
                      have hst := hid_of (rl_some hlt hE)
                      have hok' := hid_of (rstep_ok hok.out hE)
                      clear hE hok
                      go_wp2_with (go_at_call 90; go_fit (cB _); rintro e w' ⟨rfl, rfl⟩)
                      all_goals
                        refine ⟨⟨⟨IntKind.u64.wrap (IntKind.u64.wrap (m * 16) + (B - 97 + 10)), tr, und, dot, true, nd + 1, ndm + 1, dp⟩, i + 1, by first | rfl | assumption | simp [hc48], rfl, rfl, rfl, rfl, rfl, rfl, rfl, rfl, by trivial, by omega, hok'.out, ?_⟩, by simp [intOf]; omega⟩
                        show _ = _
                        rw [← hst.out]; exact hq.out
                    · have hE : rstep true l[i].toNat ⟨m, tr, und, dot, dig, nd, ndm, dp⟩ = some ⟨m, true, und, dot, true, nd + 1, ndm, dp⟩ := by simp [rstep, h95, h46, hd1', hd2', hlow, a1, a2, hm]
                      have hst := hid_of (rl_some hlt hE)
                      have hok' := hid_of (rstep_ok hok.out hE)
                      clear hE hok
                      go_wp2_with (go_at_call 90; go_fit (cB _); rintro e w' ⟨rfl, rfl⟩)
                      all_goals
                        refine ⟨⟨⟨m, true, und, dot, true, nd + 1, ndm, dp⟩, i + 1, by first | rfl | assumption | simp [hc48], rfl, rfl, rfl, rfl, rfl, rfl, rfl, rfl, by trivial, by omega, hok'.out, ?_⟩, by simp [intOf]; omega⟩
                        show _ = _
                        rw [← hst.out]; exact hq.out
                  · have hE : rstep true l[i].toNat ⟨m, tr, und, dot, dig, nd, ndm, dp⟩ = none := by simp [rstep, h95, h46, hd1', hd2', hlow, a1, a2]
                    have hst := hid_of (rl_none hlt hE)
                    clear hE
                    go_wp2_with (go_at_call 90; go_fit (cB _); rintro e w' ⟨rfl, rfl⟩)
                    all_goals
                      go_meet
                      refine ⟨⟨m, tr, und, dot, dig, nd, ndm, dp⟩, i, rfl, rfl, rfl, rfl, rfl, rfl, rfl, rfl, rfl, by trivial, by omega, hok.out, ?_⟩
                      show _ = _
                      rw [← hq.out, hst.out]
                · have hE : rstep true l[i].toNat ⟨m, tr, und, dot, dig, nd, ndm, dp⟩ = none := by simp [rstep, h95, h46, hd1', hd2', hlow, a1]
                  have hst := hid_of (rl_none hlt hE)
                  clear hE
                  go_wp2_with (go_at_call 90; go_fit (cB _); rintro e w' ⟨rfl, rfl⟩)
                  all_goals
                    go_meet
                    refine ⟨⟨m, tr, und, dot, dig, nd, ndm, dp⟩, i, rfl, rfl, rfl, rfl, rfl, rfl, rfl, rfl, rfl, by trivial, by omega, hok.out, ?_⟩
                    show _ = _
                    rw [← hq.out, hst.out]
          · cases hex with
            | false =>
              have hE : rstep false l[i].toNat ⟨m, tr, und, dot, dig, nd, ndm, dp⟩ = none := by simp [rstep, h95, h46, hd1']
              have hst := hid_of (rl_none hlt hE)
              clear hE
              have hb16 : (bas false == 16) = false := rfl
              go_wp2_with (go_at_call 90; go_fit (cB _); rintro e w' ⟨rfl, rfl⟩)
              all_goals
                go_meet
                refine ⟨⟨m, tr, und, dot, dig, nd, ndm, dp⟩, i, rfl, rfl, rfl, rfl, rfl, rfl, rfl, rfl, rfl, by trivial, by omega, hok.out, ?_⟩
                show _ = _
                rw [← hq.out, hst.out]
            | true =>
              have hb16 : (bas true == 16) = true := rfl
              have hlow : lowI l[i].toNat = B := HB.out
              by_cases a1 : 97 ≤ B
              · by_cases a2 : B ≤ 102
                · by_cases hm : ndm < mxm true
                  · have hE : rstep true l[i].toNat ⟨m, tr, und, dot, dig, nd, ndm, dp⟩ = some ⟨IntKind.u64.wrap (IntKind.u64.wrap (m * 16) + (B - 97 + 10)), tr, und, dot, true, nd + 1, ndm + 1, dp⟩ := by simp [rstep, h95, h46, hd1', hlow, a1, a2, hm]
                    have hst := hid_of (rl_some hlt hE)
                    have hok' := hid_of (rstep_ok hok.out hE)
                    clear hE hok
                    go_wp2_with (go_at_call 90; go_fit (cB _); rintro e w' ⟨rfl, rfl⟩)
                    all_goals
                      refine ⟨⟨⟨IntKind.u64.wrap (IntKind.u64.wrap (m * 16) + (B - 97 + 10)), tr, und, dot, true, nd + 1, ndm + 1, dp⟩, i + 1, by first | rfl | assumption | simp [hc48], rfl, rfl, rfl, rfl, rfl, rfl, rfl, rfl, by trivial, by omega, hok'.out, ?_⟩, by simp [intOf]; omega⟩
                      show _ = _
                      rw [← hst.out]; exact hq.out
                  · have hE : rstep true l[i].toNat ⟨m, tr, und, dot, dig, nd, ndm, dp⟩ = some ⟨m, true, und, dot, true, nd + 1, ndm, dp⟩ := by simp [rstep, h95, h46, hd1', hlow, a1, a2, hm]
                    have hst := hid_of (rl_some hlt hE)
                    have hok' := hid_of (rstep_ok hok.out hE)
                    clear hE hok
                    go_wp2_with (go_at_call 90; go_fit (cB _); rintro e w' ⟨rfl, rfl⟩)
                    all_goals
                      refine ⟨⟨⟨m, true, und, dot, true, nd + 1, ndm, dp⟩, i + 1, by first | rfl | assumption | simp [hc48], rfl, rfl, rfl, rfl, rfl, rfl, rfl, rfl, by trivial, by omega, hok'.out, ?_⟩, by simp [intOf]; omega⟩
                      show _ = _
                      rw [← hst.out]; exact hq.out
                · have hE : rstep true l[i].toNat ⟨m, tr, und, dot, dig, nd, ndm, dp⟩ = none := by simp [rstep, h95, h46, hd1', hlow, a1, a2]
                  have hst := hid_of (rl_none hlt hE)
                  clear hE
                  go_wp2_with (go_at_call 90; go_fit (cB _); rintro e w' ⟨rfl, rfl⟩)
                  all_goals
                    go_meet
                    refine ⟨⟨m, tr, und, dot, dig, nd, ndm, dp⟩, i, rfl, rfl, rfl, rfl, rfl, rfl, rfl, rfl, rfl, by trivial, by omega, hok.out, ?_⟩
                    show _ = _
                    rw [← hq.out, hst.out]
              · have hE : rstep true l[i].toNat ⟨m, tr, und, dot, dig, nd, ndm, dp⟩ = none := by simp [rstep, h95, h46, hd1', hlow, a1]
                have hst := hid_of (rl_none hlt hE)
                clear hE
                go_wp2_with (go_at_call 90; go_fit (cB _); rintro e w' ⟨rfl, rfl⟩)
                all_goals
                  go_meet
                  refine ⟨⟨m, tr, und, dot, dig, nd, ndm, dp⟩, i, rfl, rfl, rfl, rfl, rfl, rfl, rfl, rfl, rfl, by trivial, by omega, hok.out, ?_⟩
                  show _ = _
                  rw [← hq.out, hst.out]
    · have hst := hid_of (rl_end (hex := hex) (s := ⟨m, tr, und, dot, dig, nd, ndm, dp⟩) (show l.length ≤ i by omega))
      go_wp2_with fail
      go_meet
      refine ⟨⟨m, tr, und, dot, dig, nd, ndm, dp⟩, i, rfl, rfl, rfl, rfl, rfl, rfl, rfl, rfl, rfl, by trivial, by omega, hok.out, ?_⟩
      show _ = _
      rw [← hq.out, hst.out]
  case rest =>
  obtain ⟨s, i, rfl, rfl, rfl, rfl, rfl, rfl, rfl, rfl, rfl, hw, hi, hok0, H2⟩ := hcut
  have hw' := hw.symm
  subst hw'
  clear hw H1 hi1'
  obtain ⟨m0, m1, hnd, hndm, hdp0, hdp1⟩ := hok0
  obtain ⟨m, tr, und, dot, dig, nd, ndm, dp⟩ := s
  simp only [] at m0 m1 hnd hndm hdp0 hdp1
  have hb16 : (bas hex == 16) = hex := by cases hex <;> rfl
  cases dig with
  | false =>
    have HR : Hid ((⟨m, 0, neg, tr, hex, i, false⟩ : RF) = R) := H2
    clear H2
    go_wp2_with fail
    simp only [Exit.noGoto_ret]
    refine bodyPost_ret (results_tmp7 rfl _ _ _) rfl ?_
    refine ⟨?_, rfl⟩
    rw [← HR.out]
    rfl
  | true =>
  obtain ⟨dp1, hd1⟩ : ∃ dp1 : Int, dp1 = if dot then dp else nd := ⟨_, rfl⟩
  obtain ⟨dp2, hd2⟩ : ∃ dp2 : Int, dp2 = dp1 * (if hex then 4 else 1) := ⟨_, rfl⟩
  obtain ⟨nm2, hn2⟩ : ∃ nm2 : Int, nm2 = (ndm : Int) * (if hex then 4 else 1) := ⟨_, rfl⟩
  have H3 : Hid (rf3 uokF l neg hex m tr i und nm2 dp2 = R) := by
    show _ = _
    rw [← H2.out, rf2, hd2, hn2, hd1]; rfl
  have hbd1 : -1000000000 ≤ dp1 ∧ dp1 ≤ 1000000000 := by rw [hd1]; split <;> omega
  have hbd2 : -4000000000 ≤ dp2 ∧ dp2 ≤ 4000000000 := by rw [hd2]; split <;> omega
  have hbn2 : 0 ≤ nm2 ∧ nm2 ≤ 80 := by rw [hn2]; split <;> omega
  obtain ⟨hbd1a, hbd1b⟩ := hbd1
  obtain ⟨hbd2a, hbd2b⟩ := hbd2
  obtain ⟨hbn2a, hbn2b⟩ := hbn2
  have HD1 := hid_of hd1
  have HD2 := hid_of hd2
  have HN2 := hid_of hn2
  clear hd1 hd2 hn2 H2
  go_upto_if 142 with fail
  go_cut [17] from 143 to 143 (fun v wr => v = .int .i64 dp1 ∧ wr = w)
  case first =>
    have e1 := HD1.out
    clear HD1 HD2 HN2 H3
    cases dot with
    | true =>
      simp only [if_true] at e1
      subst e1
      go_wp2_with fail
      go_meet
      exact ⟨rfl, rfl⟩
    | false =>
      simp only [if_false, Bool.false_eq_true] at e1
      subst e1
      go_wp2_with fail
      go_meet
      exact ⟨rfl, rfl⟩
  case rest =>
  obtain ⟨rfl, hw⟩ := hcut
  have hw' := hw.symm
  subst hw'
  clear hw HD1
  go_upto_if 145 with fail
  go_cut [16, 17] from 146 to 149 (fun v16 v17 wr => v16 = .int .i64 nm2 ∧ v17 = .int .i64 dp2 ∧ wr = w)
  case first =>
    have e1 := HD2.out
    have e2 := HN2.out
    clear HD2 HN2 H3
    cases hex with
    | true =>
      simp only [if_true] at e1 e2
      subst e1 e2
      go_wp2_with fail
      go_meet
      exact ⟨rfl, rfl, rfl⟩
    | false =>
      simp only [if_false, Bool.false_eq_true, Int.mul_one] at e1 e2
      subst e1 e2
      go_wp2_with fail
      go_meet
      exact ⟨rfl, rfl, rfl⟩
  case rest =>
  obtain ⟨rfl, rfl, hw⟩ := hcut
  have hw' := hw.symm
  subst hw'
  clear hw HD2 HN2
  obtain ⟨he, hhe⟩ : ∃ he, he = (decide (i < l.length) && (lowI (gt l i) == expc hex)) := ⟨_, rfl⟩
  have HE := hid_of hhe
  clear hhe
  go_upto_region 57 with fail
  go_cut [161] from 150 to 160 (fun v wr => v = .bool he ∧ wr = w)
  case first =>
    have e1 := HE.out
    clear HE H3
    by_cases hlt : i < l.length
    · obtain ⟨B, hB⟩ : ∃ B, lowI l[i].toNat = B := ⟨_, rfl⟩
      have cB : Gives 90 #[.int .u8 l[i].toNat] (.int .u8 B) := hB ▸ cL l[i].toNat
      rw [gt_eq hlt, hB] at e1
      have e2 : he = (B == expc hex) := by rw [e1]; simp [hlt]
      clear e1 hB cL
      subst e2
      go_wp2_with (go_at_call 90; go_fit (cB _); rintro e w' ⟨rfl, rfl⟩)
      go_meet
      exact ⟨rfl, rfl⟩
    · have e2 : he = false := by rw [e1]; simp [hlt]
      clear e1
      subst e2
      go_wp2_with fail
      go_meet
      exact ⟨rfl, rfl⟩
  case rest =>
  obtain ⟨rfl, hw⟩ := hcut
  have hw' := hw.symm
  subst hw'
  clear hw
  go_upto_if 161 with fail
  go_cut [7, 9, 17, 19, 20] from 162 to 239 (fun v7 v9 v17 v19 v20 wr => ∃ (i' : Nat) (und' : Bool) (dp' : Int), v7 = .int .i64 i' ∧ v9 = .bool und' ∧ v17 = .int .i64 dp' ∧ wr = w ∧ i' ≤ l.length ∧ -5000000000 ≤ dp' ∧ dp' ≤ 5000000000 ∧ Hid (rf5 uokF l neg hex m tr i' und' nm2 dp' = R))
  case first =>
    cases he with
    | false =>
      have hnh : ¬ (i < l.length ∧ lowI (gt l i) = expc hex) := by
        rintro ⟨h1, h2⟩
        have := HE.out
        simp [h1, h2] at this
      have H4 : Hid ((if hex then (⟨m, 0, neg, tr, hex, i, false⟩ : RF) else rf5 uokF l neg hex m tr i und nm2 dp2) = R) := by
        show _ = _
        rw [← H3.out, rf3, if_neg hnh]
      clear H3 HE hnh
      cases hex with
      | true =>
        have HR : Hid ((⟨m, 0, neg, tr, true, i, false⟩ : RF) = R) := H4
        clear H4
        go_wp2_with fail
        simp only [Exit.noGoto_ret]
        refine bodyPost_ret (results_tmp7 rfl _ _ _) rfl ?_
        refine ⟨?_, rfl⟩
        rw [← HR.out]
        rfl
      | false =>
        have H5 : Hid (rf5 uokF l neg false m tr i und nm2 dp2 = R) := H4
        clear H4
        go_wp2_with fail
        go_meet
        exact ⟨i, und, dp2, rfl, rfl, rfl, by trivial, by omega, by omega, by omega, H5⟩
    | true =>
      have hh : i < l.length ∧ lowI (gt l i) = expc hex := by
        have := HE.out.symm
        simpa using this
      have H4 : Hid ((if i + 1 < l.length then
          (if gt l (i + 1) = 43 then rf4 uokF l neg hex m tr (i + 2) und nm2 dp2 1
           else if gt l (i + 1) = 45 then rf4 uokF l neg hex m tr (i + 2) und nm2 dp2 (-1)
           else rf4 uokF l neg hex m tr (i + 1) und nm2 dp2 1)
         else (⟨m, 0, neg, tr, hex, i + 1, false⟩ : RF)) = R) := by
        show _ = _
        rw [← H3.out, rf3, if_pos hh]
      have hlt := hh.1
      clear H3 HE hh
      by_cases h1 : i + 1 < l.length
      · rw [if_pos h1] at H4
        obtain ⟨i2, hi2⟩ : ∃ i2 : Nat, i2 = if gt l (i + 1) = 43 ∨ gt l (i + 1) = 45 then i + 2 else i + 1 := ⟨_, rfl⟩
        obtain ⟨sg, hsg⟩ : ∃ sg : Int, sg = if gt l (i + 1) = 45 then -1 else 1 := ⟨_, rfl⟩
        have H5 : Hid (rf4 uokF l neg hex m tr i2 und nm2 dp2 sg = R) := by
          show _ = _
          rw [← H4.out, hi2, hsg]
          by_cases g1 : gt l (i + 1) = 43
          · rw [if_pos g1, g1]; rfl
          · rw [if_neg g1]
            by_cases g2 : gt l (i + 1) = 45
            · rw [if_pos g2, g2]; rfl
            · rw [if_neg g2, if_neg g2, if_neg (by rintro (h | h); exact g1 h; exact g2 h)]
        have hi2' : i2 ≤ l.length := by rw [hi2]; split <;> omega
        have hsg' : sg = 1 ∨ sg = -1 := by rw [hsg]; split <;> omega
        rw [gt_eq h1] at hi2 hsg
        have HI2 := hid_of hi2
        have HSG := hid_of hsg
        clear H4 hi2 hsg
        have hb8 := UInt8.toNat_lt l[i + 1]
        go_upto_block 4 with fail
        go_cut [7, 19] from 168 to 178 (fun v7 v19 wr => v7 = .int .i64 i2 ∧ v19 = .int .i64 sg ∧ wr = w)
        case first =>
          have e1 := HI2.out
          have e2 := HSG.out
          clear HI2 HSG H5
          by_cases g1 : (l[i + 1].toNat : Int) = 43
          · rw [if_pos (.inl g1)] at e1
            rw [if_neg (by omega)] at e2
            subst e1 e2
            go_wp2_with fail
            go_meet
            exact ⟨rfl, rfl, rfl⟩
          · by_cases g2 : (l[i + 1].toNat : Int) = 45
            · rw [if_pos (.inr g2)] at e1
              rw [if_pos g2] at e2
              subst e1 e2
              have g1' := ne_k g1
              go_wp2_with fail
              go_meet
              exact ⟨rfl, rfl, rfl⟩
            · rw [if_neg (by omega)] at e1
              rw [if_neg g2] at e2
              subst e1 e2
              have g1' := ne_k g1
              have g2' := ne_k g2
              go_wp2_with fail
              go_meet
              exact ⟨rfl, rfl, rfl⟩
        case rest =>
        obtain ⟨rfl, rfl, hw⟩ := hcut
        have hw' := hw.symm
        subst hw'
        clear hw HI2 HSG
        obtain ⟨bad, hbad⟩ : ∃ bad, bad = !(decide (i2 < l.length) && decide (48 ≤ gt l i2) && decide (gt l i2 ≤ 57)) := ⟨_, rfl⟩
        have HBD := hid_of hbad
        clear hbad
        go_upto_region 67 with fail
        go_cut [194] from 179 to 193 (fun v wr => v = .bool bad ∧ wr = w)
        case first =>
          have e1 := HBD.out
          clear HBD H5
          by_cases h2 : i2 < l.length
          · rw [gt_eq h2] at e1
            by_cases d1 : 48 ≤ (l[i2].toNat : Int)
            · by_cases d2 : (l[i2].toNat : Int) ≤ 57
              · have e2 : bad = false := by rw [e1]; simp [h2, d1, d2]
                clear e1
                subst e2
                go_wp2_with fail
                go_meet
                exact ⟨by first | rfl | (simp; omega), rfl⟩
              · have e2 : bad = true := by rw [e1]; simp [h2, d1, d2]
                clear e1
                subst e2
                go_wp2_with fail
                go_meet
                exact ⟨rfl, rfl⟩
            · have e2 : bad = true := by rw [e1]; simp [h2, d1]
              clear e1
              subst e2
              go_wp2_with fail
              go_meet
              exact ⟨rfl, rfl⟩
          · have e2 : bad = true := by rw [e1]; simp [h2]
            clear e1
            subst e2
            go_wp2_with fail
            go_meet
            exact ⟨rfl, rfl⟩
        case rest =>
        obtain ⟨rfl, hw⟩ := hcut
        have hw' := hw.symm
        subst hw'
        clear hw
        cases bad with
        | true =>
          have HR : Hid ((⟨m, 0, neg, tr, hex, i2, false⟩ : RF) = R) := by
            show _ = _
            rw [← H5.out, rf4, if_neg]
            rintro ⟨k1, k2, k3⟩
            have := HBD.out
            simp [k1, k2, k3] at this
          clear H5 HBD
          go_wp2_with fail
          simp only [Exit.noGoto_ret]
          refine bodyPost_ret (results_tmp7 rfl _ _ _) rfl ?_
          refine ⟨?_, rfl⟩
          rw [← HR.out]
          rfl
        | false =>
          have H6 : Hid (rf5 uokF l neg hex m tr (el (l.drop i2) i2 0 und).1 (el (l.drop i2) i2 0 und).2.2 nm2 (dp2 + (el (l.drop i2) i2 0 und).2.1 * sg) = R) := by
            show _ = _
            rw [← H5.out, rf4, if_pos]
            have := HBD.out
            simp at this
            exact ⟨this.1.1, this.1.2, this.2⟩
          clear H5 HBD
          go_wp2_with fail
          go_loopw [7, 9, 20] (fun v7 v9 v20 wr => ∃ (j : Nat) (ub : Bool) (e : Int), v7 = .int .i64 j ∧ v9 = .bool ub ∧ v20 = .int .i64 e ∧ wr = w ∧ j ≤ l.length ∧ 0 ≤ e ∧ e ≤ 200000 ∧ Hid (rf5 uokF l neg hex m tr (el (l.drop j) j e ub).1 (el (l.drop j) j e ub).2.2 nm2 (dp2 + (el (l.drop j) j e ub).2.1 * sg) = R)) (fun vi _ _ _ => l.length - (intOf vi).toNat)
          case atStart => exact ⟨i2, und, 0, rfl, rfl, rfl, rfl, hi2', by omega, by omega, H6⟩
          case round =>
          obtain ⟨j, ub, e, rfl, rfl, rfl, rfl, hj, he0, he1, hq⟩ := hrel
          clear H6
          by_cases hjl : j < l.length
          · have hst := hid_of (el_drop hjl e ub)
            have hc8 := UInt8.toNat_lt l[j]
            by_cases g95 : (l[j].toNat : Int) = 95
            · have hs2 : Hid (el (l.drop j) j e ub = el (l.drop (j + 1)) (j + 1) e true) := by show _ = _; rw [hst.out, if_pos g95]
              clear hst
              go_wp2_with fail
              refine ⟨⟨j + 1, true, e, rfl, rfl, rfl, by trivial, by omega, by omega, by omega, ?_⟩, by simp [intOf]; omega⟩
              show _ = _
              rw [← hs2.out]; exact hq.out
            · have g95' := ne_k g95
              by_cases d1 : 48 ≤ (l[j].toNat : Int)
              · by_cases d2 : (l[j].toNat : Int) ≤ 57
                · by_cases hee : e < 10000
                  · have hs2 : Hid (el (l.drop j) j e ub = el (l.drop (j + 1)) (j + 1) (e * 10 + l[j].toNat - 48) ub) := by show _ = _; rw [hst.out, if_neg g95, if_pos ⟨d1, d2⟩, if_pos hee]
                    clear hst
                    go_wp2_with fail
                    refine ⟨⟨j + 1, ub, e * 10 + l[j].toNat - 48, rfl, rfl, rfl, by trivial, by omega, by omega, by omega, ?_⟩, by simp [intOf]; omega⟩
                    show _ = _
                    rw [← hs2.out]; exact hq.out
                  · have hs2 : Hid (el (l.drop j) j e ub = el (l.drop (j + 1)) (j + 1) e ub) := by show _ = _; rw [hst.out, if_neg g95, if_pos ⟨d1, d2⟩, if_neg hee]
                    clear hst
                    go_wp2_with fail
                    refine ⟨⟨j + 1, ub, e, rfl, rfl, rfl, by trivial, by omega, by omega, by omega, ?_⟩, by simp [intOf]; omega⟩
                    show _ = _
                    rw [← hs2.out]; exact hq.out
                · have hs2 : Hid (el (l.drop j) j e ub = (j, e, ub)) := by show _ = _; rw [hst.out, if_neg g95, if_neg (fun h => d2 h.2)]
                  clear hst
                  rcases hsg' with rfl | rfl
                  all_goals
                    go_wp2_with fail
                    go_meet
                    refine ⟨j, ub, _, rfl, rfl, rfl, by trivial, by omega, ?_, ?_, ?_⟩
                    rotate_left 2
                    · show _ = _
                      rw [← hq.out, hs2.out]; simp [Int.mul_neg]
                    · omega
                    · omega
              · have hs2 : Hid (el (l.drop j) j e ub = (j, e, ub)) := by show _ = _; rw [hst.out, if_neg g95, if_neg (fun h => d1 h.1)]
                clear hst
                rcases hsg' with rfl | rfl
                all_goals
                  go_wp2_with fail
                  go_meet
                  refine ⟨j, ub, _, rfl, rfl, rfl, by trivial, by omega, ?_, ?_, ?_⟩
                  rotate_left 2
                  · show _ = _
                    rw [← hq.out, hs2.out]; simp [Int.mul_neg]
                  · omega
                  · omega
          · have hs2 := hid_of (el_end (l := l) (i := j) (by omega) e ub)
            rcases hsg' with rfl | rfl
            all_goals
              go_wp2_with fail
              go_meet
              refine ⟨j, ub, _, rfl, rfl, rfl, by trivial, by omega, ?_, ?_, ?_⟩
              rotate_left 2
              · show _ = _
                rw [← hq.out, hs2.out]; simp [Int.mul_neg]
              · omega
              · omega
      · rw [if_neg h1] at H4
        have HR : Hid ((⟨m, 0, neg, tr, hex, i + 1, false⟩ : RF) = R) := H4
        clear H4
        go_wp2_with fail
        simp only [Exit.noGoto_ret]
        refine bodyPost_ret (results_tmp7 rfl _ _ _) rfl ?_
        refine ⟨?_, rfl⟩
        rw [← HR.out]
        rfl
  case rest =>
  obtain ⟨i', und', dp', rfl, rfl, rfl, hw, hi', hdpa, hdpb, H5⟩ := hcut
  have hw' := hw.symm
  subst hw'
  clear hw H3 HE
  obtain ⟨pp, hpp⟩ : ∃ pp : Int, pp = if m = 0 then 0 else dp' - nm2 := ⟨_, rfl⟩
  have HP := hid_of hpp
  have H6 : Hid ((⟨m, pp, neg, tr, hex, i', !(und' && !(uokF (l.take i')))⟩ : RF) = R) := by
    show _ = _
    rw [← H5.out, rf5, hpp]
  clear hpp H5
  go_upto_if 241 with fail
  go_cut [3] from 242 to 244 (fun v wr => v = .int .i64 pp ∧ wr = w)
  case first =>
    have e1 := HP.out
    clear HP H6
    by_cases hm : m = 0
    · subst hm
      simp only [if_true] at e1
      subst e1
      go_wp2_with fail
      go_meet
      exact ⟨rfl, rfl⟩
    · rw [if_neg hm] at e1
      have hm' : (m != 0) = true := bne_iff_ne.2 hm
      have hm'' : (m == 0) = false := beq_eq_false_iff_ne.2 hm
      subst e1
      go_wp2_with fail
      go_meet
      exact ⟨rfl, rfl⟩
  case rest =>
  obtain ⟨rfl, hw⟩ := hcut
  have hw' := hw.symm
  subst hw'
  clear hw HP
  cases und' with
  | false =>
    have HR : Hid ((⟨m, pp, neg, tr, hex, i', true⟩ : RF) = R) := H6
    clear H6
    go_wp2_with fail
    simp only [Exit.noGoto_ret]
    refine bodyPost_ret (results_tmp7 rfl _ _ _) rfl ?_
    refine ⟨?_, rfl⟩
    rw [← HR.out]
    rfl
  | true =>
    have cU := uokF_gives (l.take i') (by rw [List.length_take]; omega)
    cases hu : uokF (l.take i') with
    | true =>
      rw [hu] at cU
      have HR : Hid ((⟨m, pp, neg, tr, hex, i', true⟩ : RF) = R) := by show _ = _; rw [← H6.out, hu]; rfl
      clear H6 hu
      go_wp2_with (go_at_call 91; go_fit (cU _); rintro e w' ⟨rfl, rfl⟩)
      simp only [Exit.noGoto_ret]
      refine bodyPost_ret (results_tmp7 rfl _ _ _) rfl ?_
      refine ⟨?_, rfl⟩
      rw [← HR.out]
      rfl
    | false =>
      rw [hu] at cU
      have HR : Hid ((⟨m, pp, neg, tr, hex, i', false⟩ : RF) = R) := by show _ = _; rw [← H6.out, hu]; rfl
      clear H6 hu
      go_wp2_with (go_at_call 91; go_fit (cU _); rintro e w' ⟨rfl, rfl⟩)
      simp only [Exit.noGoto_ret]
      refine bodyPost_ret (results_tmp7 rfl _ _ _) rfl ?_
      refine ⟨?_, rfl⟩
      rw [← HR.out]
      rfl
end Go.Proofs.Qxb6606206aGreatDoor
