import Derived.Test.Qxb6614395aFmtF2
set_option linter.unusedSimpArgs false
set_option linter.unusedVariables false
namespace Go.Proofs.Qxb6614395aFmt
open Go Go.RowKit Go.Deep Go.Extern.Stop Go.Stop Go.Extern
attribute [local go_sem] str_size str_get str_extract str_toList str_append eqlS_nil eqlS_some neqS_nil

theorem ne_byte {b : UInt8} {n : Nat} (hn : n < 256) (h : ¬ b = UInt8.ofNat n) : ((b.toNat : Int) == (n : Int)) = false := by
  rw [beq_eq_false_iff_ne]
  exact fun h' => h ((toNat_eq hn).1 h')

set_option maxHeartbeats 12800000 in
set_option maxRecDepth 20000 in
theorem law4_calls (F : Interp) (bE bF : Addr) (T what : List UInt8) (hv : Value) (hdr : List (List UInt8)) (w : World) (hE : EnvW F w.heap.size bE bF w) (hA : HArg w hv hdr) (hT : T.length ≤ 9223372036854775807) (hW : what.length ≤ 9223372036854775807) :
    Calls Tryf.prog 4 #[.string (str T), .string (str what), hv] w (LawQ w) := by
  have cB := bytes4_calls T what hv hdr w hT hW hA
  obtain ⟨p, n, cap, rfl, hnl, hAc⟩ : ∃ p n cap, hv = .slice p n cap ∧ hdr.length = n ∧ (n = 0 ∨ ∃ b o, p = some ⟨b, o, none⟩ ∧ Strs w b o hdr) := by
    rcases hA with ⟨h1, h2⟩ | ⟨b, o, sp, cap, h1, h2, h3, h4, h5, h6⟩
    · exact ⟨none, 0, 0, h1, by rw [h2]; rfl, .inl rfl⟩
    · refine ⟨_, _, cap, h1, rfl, ?_⟩
      rcases h2 with h | h
      · exact .inl h
      · exact .inr ⟨b, o, by rw [h], h3⟩
  have HE := hid_of hE
  have HN := hid_of hnl
  have HAC := hid_of hAc
  clear hA hE hnl hAc
  go_enter Tryf.func4, Tryf.ntmps4
  go_upto_if 32 with (go_at_call 13; go_fit cB; rintro e w0 ⟨⟨bb, rfl, hbb⟩, rfl⟩)
  cases bb with
  | false =>
    go_wp2_with fail
    go_ret
    exact ⟨rfl, Only.refl _ _⟩
  | true =>
    have HAL := hid_of (hbb rfl)
    clear hbb cB
    by_cases h1 : (524288 : Int) < (T.length : Int)
    · go_wp2_with fail
      go_ret
      exact ⟨rfl, Only.refl _ _⟩
    · by_cases h2 : (65536 : Int) < (what.length : Int)
      · go_wp2_with fail
        go_ret
        exact ⟨rfl, Only.refl _ _⟩
      · by_cases h3 : (4096 : Int) < (n : Int)
        · go_wp2_with fail
          go_ret
          exact ⟨rfl, Only.refl _ _⟩
        · have hT2 : T.length ≤ 524288 := by omega
          have hW2 : what.length ≤ 65536 := by omega
          have hn4 : n ≤ 4096 := by omega
          go_upto_block 0 with fail
          go_cut [7, 8] from 42 to 56 (fun v7 v8 wr' => wr' = w0 ∧ v7 = .int .i64 (hdr.flatten.length : Int) ∧ Hid (hdr.flatten.length ≤ 262144))
          case first =>
            go_wp2_with fail
            go_loopg [7, 8] (n + 1) (fun f v7 v8 wr => ∃ (i z : Nat), v7 = .int .i64 (z : Int) ∧ z ≤ 262144 ∧ v8 = .int .i64 (i : Int) ∧ i ≤ n ∧ n < f + i ∧ wr = w0 ∧ Hid ((hdr.take i).flatten.length = z))
            case atStart => exact ⟨0, 0, rfl, by omega, rfl, by omega, by omega, rfl, by show _ = _; simp⟩
            case round =>
              obtain ⟨i, z, rfl, hz, rfl, hi, hif, hw, htot⟩ := hrel
              subst hw
              obtain ⟨f, rfl⟩ : ∃ f, gk = f + 1 := ⟨gk - 1, by omega⟩
              by_cases hlt : i < n
              · obtain ⟨b, o, rfl, hst⟩ := HAC.out.resolve_left (by omega)
                have hi1 : i < hdr.length := by rw [HN.out]; exact hlt
                have hci := hst i hi1
                have hxl := HAL.out _ (List.getElem_mem hi1)
                obtain ⟨x, hxi⟩ : ∃ x, hdr[i] = x := ⟨_, rfl⟩
                have HTK : Hid ((hdr.take (i + 1)).flatten.length = z + x.length) := by
                  show _ = _
                  have e : hdr.take (i + 1) = hdr.take i ++ [x] := by rw [List.take_add_one, List.getElem?_eq_getElem hi1, hxi]; rfl
                  rw [e, List.flatten_append, List.length_append, htot.out]
                  simp
                rw [hxi] at hci hxl
                clear hxi hst htot
                by_cases h7 : (262144 : Int) < (z : Int) + (x.length : Int)
                · go_wp2_with fail
                  go_ret
                  exact ⟨rfl, Only.refl _ _⟩
                · go_wp2_with fail
                  go_roundg f
                  case measure => omega
                  case rel => exact ⟨i + 1, z + x.length, rfl, by omega, rfl, by omega, by omega, rfl, HTK⟩
              · obtain rfl : i = n := by omega
                have HFL : Hid (hdr.flatten.length = z) := by
                  have h := htot.out
                  have h1 := HN.out
                  rw [List.take_of_length_le (by omega)] at h
                  exact h
                clear htot
                go_wp2_with fail
                go_meet
                exact ⟨rfl, by rw [HFL.out], by show _ ≤ _; rw [HFL.out]; exact hz⟩
          case rest =>
          obtain ⟨hw, rfl, hfl⟩ := hcut
          have hw' := hw.symm
          subst hw'
          clear hw
          obtain ⟨z, hz⟩ : ∃ z, hdr.flatten.length = z := ⟨_, rfl⟩
          rw [hz]
          have hz2 : z ≤ 262144 := by rw [← hz]; exact hfl.out
          have HZ := hid_of hz
          clear hz hfl
          by_cases hn0 : n = 0
          · subst hn0
            go_wp2_with fail
            go_ret
            exact ⟨rfl, Only.refl _ _⟩
          · have hnz : ((n : Int) == 0) = false := by rw [beq_eq_false_iff_ne]; omega
            obtain ⟨b, o, rfl, hst0⟩ := HAC.out.resolve_left hn0
            have HST := hid_of hst0
            clear hst0
            go_upto_block 2 with fail
            go_cut [9, 10, 11, 12] from 60 to 92 (fun v9 v10 v11 v12 wr' => wr' = w0 ∧ Hid (Clean hdr))
            case first =>
              go_wp2_with fail
              go_loopg [9, 10, 11, 12] (n + 1) (fun f v9 v10 v11 v12 wr => ∃ i : Nat, v9 = .int .i64 (i : Int) ∧ i ≤ n ∧ n < f + i ∧ wr = w0 ∧ Hid (Clean (hdr.take i)))
              case atStart => exact ⟨0, rfl, by omega, by omega, rfl, by show Clean _; intro x hx; simp at hx⟩
              case round =>
                obtain ⟨i, rfl, hi, hif, hw, hcl⟩ := hrel
                have hw' := hw.symm
                subst hw'
                clear hw
                obtain ⟨f, rfl⟩ : ∃ f, gk = f + 1 := ⟨gk - 1, by omega⟩
                by_cases hlt : i < n
                · have hi1 : i < hdr.length := by rw [HN.out]; exact hlt
                  have hci := HST.out i hi1
                  have hxl := HAL.out _ (List.getElem_mem hi1)
                  obtain ⟨x, hxi⟩ : ∃ x, hdr[i] = x := ⟨_, rfl⟩
                  have HTK : Hid (hdr.take (i + 1) = hdr.take i ++ [x]) := by
                    show _ = _
                    rw [List.take_add_one, List.getElem?_eq_getElem hi1, hxi]; rfl
                  rw [hxi] at hci hxl
                  clear hxi
                  go_upto_block 4 with fail
                  go_wp2_with fail
                  go_loopg [11, 12] (x.length + 1) (fun f v11 v12 wr => ∃ j : Nat, v11 = .int .i64 (j : Int) ∧ j ≤ x.length ∧ x.length < f + j ∧ wr = w0 ∧ Hid (44 ∉ x.take j ∧ 34 ∉ x.take j ∧ 10 ∉ x.take j ∧ 13 ∉ x.take j))
                  case atStart => exact ⟨0, rfl, by omega, by omega, rfl, by show _ ∧ _; simp⟩
                  case round =>
                    obtain ⟨j, rfl, hj, hjf, hw, hno⟩ := hrel
                    have hw' := hw.symm
                    subst hw'
                    clear hw
                    obtain ⟨f2, rfl⟩ : ∃ f2, gk = f2 + 1 := ⟨gk - 1, by omega⟩
                    by_cases hjl : j < x.length
                    · obtain ⟨y, hy⟩ : ∃ y, x[j] = y := ⟨_, rfl⟩
                      have HTX : Hid (x.take (j + 1) = x.take j ++ [y]) := by
                        show _ = _
                        rw [List.take_add_one, List.getElem?_eq_getElem hjl, hy]; rfl
                      by_cases q1 : y = 44
                      · have q1' : ((x[j].toNat : Int)) = 44 := by rw [hy, q1]; rfl
                        clear hy q1 hno
                        go_wp2_with fail
                        go_ret
                        exact ⟨rfl, Only.refl _ _⟩
                      · have n1 : ((x[j].toNat : Int) == 44) = false := by rw [hy]; exact ne_byte (n := 44) (by omega) q1
                        by_cases q2 : y = 34
                        · have q2' : ((x[j].toNat : Int)) = 34 := by rw [hy, q2]; rfl
                          clear hy q1 q2 hno
                          go_wp2_with fail
                          go_ret
                          exact ⟨rfl, Only.refl _ _⟩
                        · have n2 : ((x[j].toNat : Int) == 34) = false := by rw [hy]; exact ne_byte (n := 34) (by omega) q2
                          by_cases q3 : y = 10
                          · have q3' : ((x[j].toNat : Int)) = 10 := by rw [hy, q3]; rfl
                            clear hy q1 q2 q3 hno
                            go_wp2_with fail
                            go_ret
                            exact ⟨rfl, Only.refl _ _⟩
                          · have n3 : ((x[j].toNat : Int) == 10) = false := by rw [hy]; exact ne_byte (n := 10) (by omega) q3
                            by_cases q4 : y = 13
                            · have q4' : ((x[j].toNat : Int)) = 13 := by rw [hy, q4]; rfl
                              clear hy q1 q2 q3 q4 hno
                              go_wp2_with fail
                              go_ret
                              exact ⟨rfl, Only.refl _ _⟩
                            · have n4 : ((x[j].toNat : Int) == 13) = false := by rw [hy]; exact ne_byte (n := 13) (by omega) q4
                              have HNX : Hid (44 ∉ x.take (j + 1) ∧ 34 ∉ x.take (j + 1) ∧ 10 ∉ x.take (j + 1) ∧ 13 ∉ x.take (j + 1)) := by
                                show _ ∧ _
                                rw [HTX.out]
                                obtain ⟨r1, r2, r3, r4⟩ := hno.out
                                simp only [List.mem_append, List.mem_singleton, not_or]
                                exact ⟨⟨r1, Ne.symm q1⟩, ⟨r2, Ne.symm q2⟩, ⟨r3, Ne.symm q3⟩, ⟨r4, Ne.symm q4⟩⟩
                              clear hy q1 q2 q3 q4 hno
                              go_wp2_with fail
                              go_roundg f2
                              case measure => omega
                              case rel => exact ⟨j + 1, rfl, by omega, by omega, rfl, HNX⟩
                    · obtain rfl : j = x.length := by omega
                      have HNX : Hid (44 ∉ x ∧ 34 ∉ x ∧ 10 ∉ x ∧ 13 ∉ x) := by
                        have h := hno.out
                        rw [List.take_length] at h
                        exact h
                      have HC2 : Hid (Clean (hdr.take (i + 1))) := by
                        show Clean _
                        rw [HTK.out]
                        intro y hy
                        rcases List.mem_append.1 hy with h | h
                        · exact hcl.out y h
                        · rw [List.mem_singleton] at h
                          rw [h]
                          exact HNX.out
                      clear hcl HNX hno
                      go_wp2_with fail
                      go_roundg f
                      case measure => omega
                      case rel => exact ⟨i + 1, rfl, by omega, by omega, rfl, HC2⟩
                · obtain rfl : i = n := by omega
                  have HC2 : Hid (Clean hdr) := by
                    have h := hcl.out
                    have h1 := HN.out
                    rw [List.take_of_length_le (by omega)] at h
                    exact h
                  go_wp2_with fail
                  go_meet
                  exact ⟨rfl, HC2⟩
            case rest =>
            obtain ⟨hw, hclean⟩ := hcut
            have hw' := hw.symm
            subst hw'
            clear hw
            obtain ⟨C, hC⟩ : ∃ C, z + n + 1 = C := ⟨_, rfl⟩
            obtain ⟨w1, hmk, hlb1⟩ := lb_make w0 C (by omega)
            have k1 : IntKind.i64.wrap ((z : Int) + (n : Int)) = (z : Int) + (n : Int) := IntWalk.i64_in _ (by omega)
            have k2 : IntKind.i64.wrap ((z : Int) + (n : Int) + 1) = (C : Int) := by rw [IntWalk.i64_in _ (by omega)]; omega
            have k3 : (z : Int) + (n : Int) + 1 = (C : Int) := by omega
            go_upto_region 28 with fail
            go_cut [13] from 93 to 98 (fun v13 wr' => Hid (LB w0 wr' v13 []))
            case first =>
              go_wp2_with fail
              go_meet
              exact hlb1
            case rest =>
            have HLB1 := hcut
            clear hmk k1 k2 k3 hlb1 hcut
            go_upto_block 6 with fail
            go_cut [13, 14] from 99 to 115 (fun v13 v14 wr' => Hid (LB w0 wr' v13 (jn hdr)))
            case first =>
              go_wp2_with fail
              go_loopg [13, 14] (n + 1) (fun f v13 v14 wr => ∃ i : Nat, v14 = .int .i64 (i : Int) ∧ i ≤ n ∧ n < f + i ∧ Hid (LB w0 wr v13 (jn (hdr.take i))))
              case atStart => exact ⟨0, rfl, by omega, by omega, HLB1⟩
              case round =>
                obtain ⟨i, rfl, hi, hif, hlb⟩ := hrel
                obtain ⟨f, rfl⟩ : ∃ f, gk = f + 1 := ⟨gk - 1, by omega⟩
                by_cases hlt : i < n
                · have hi1 : i < hdr.length := by rw [HN.out]; exact hlt
                  have hxl := HAL.out _ (List.getElem_mem hi1)
                  have hjl := jn_len (hdr.take i)
                  have hfl := flat_le hdr i
                  have hzz := HZ.out
                  rw [List.length_take] at hjl
                  have hci := (HST.out.only hlb.out.2 (fun h => h)) i hi1
                  have hxz : (hdr[i]).length ≤ z := by
                    rw [← hzz]
                    have h1 := flat_take hdr i hi1
                    have h2 := flat_le hdr (i + 1)
                    rw [h1, List.length_append] at h2
                    omega
                  obtain ⟨x, hxi⟩ : ∃ x, hdr[i] = x := ⟨_, rfl⟩
                  have HTK : Hid (hdr.take (i + 1) = hdr.take i ++ [x]) := by
                    show _ = _
                    rw [List.take_add_one, List.getElem?_eq_getElem hi1, hxi]; rfl
                  rw [hxi] at hci hxz
                  by_cases hi0 : i = 0
                  · have hgt : ¬ (0 : Int) < (i : Int) := by omega
                    obtain ⟨v2, w2, hr2, hl2⟩ := lb_str hlb.out x 36 (by omega)
                    have HL2 : Hid (LB w0 w2 v2 (jn (hdr.take (i + 1)))) := by
                      show LB _ _ _ _
                      have h0 : hdr.take i = [] := by rw [hi0]; rfl
                      rw [HTK.out, jn_snoc, if_pos h0]
                      rw [h0] at hl2
                      exact hl2
                    clear hlb hl2 hjl hfl hzz hxz hxl hxi hi0
                    go_wp2_with (at_builtin; refine wpl_append_run2 rfl _ _ 36 9 rfl _ _ rfl rfl _ w2 hr2 ?_)
                    go_roundg f
                    case measure => omega
                    case rel => exact ⟨i + 1, rfl, by omega, by omega, HL2⟩
                  · have hgt : (0 : Int) < (i : Int) := by omega
                    obtain ⟨v2, w2, hr2, hl2⟩ := lb_one hlb.out 44 36 (by omega)
                    obtain ⟨v3, w3, hr3, hl3⟩ := lb_str hl2 x 36 (by rw [List.length_append, List.length_singleton]; omega)
                    have hci2 := (HST.out.only hl2.2 (fun h => h)) i hi1
                    rw [hxi] at hci2
                    have HL3 : Hid (LB w0 w3 v3 (jn (hdr.take (i + 1)))) := by
                      show LB _ _ _ _
                      rw [HTK.out, jn_snoc, if_neg (by
                        intro h
                        have h1 := congrArg List.length h
                        rw [List.length_take, List.length_nil] at h1
                        omega)]
                      have := hl3
                      rw [List.append_assoc] at this
                      exact this
                    have hr2' : (Builtin.append_ #[36, 36] 36 #[u13, .slice (some ⟨wr.heap.size, 0, none⟩) 1 1]).run Tryf.prog (wr.alloc (.cells #[.int .u8 44] 5)) = .ok v2 w2 := hr2
                    clear hlb hl2 hl3 hr2 hjl hfl hzz hxz hxl hxi hci
                    go_wp2_with (at_builtin; first | refine wpl_append_run rfl _ _ 36 rfl _ _ rfl rfl _ w2 hr2' ?_ | refine wpl_append_run2 rfl _ _ 36 9 rfl _ _ rfl rfl _ w3 hr3 ?_)
                    go_roundg f
                    case measure => omega
                    case rel => exact ⟨i + 1, rfl, by omega, by omega, HL3⟩
                · obtain rfl : i = n := by omega
                  have HL2 : Hid (LB w0 wr u13 (jn hdr)) := by
                    have h := hlb.out
                    have h1 := HN.out
                    rw [List.take_of_length_le (by omega)] at h
                    exact h
                  clear hlb
                  go_wp2_with fail
                  go_meet
                  exact HL2
            case rest =>
            have HLB := hcut
            clear hcut HLB1
            obtain ⟨p3, cp3, hv3⟩ := HLB.out.shape
            subst hv3
            obtain ⟨L, hL⟩ : ∃ L, (jn hdr).length = L := ⟨_, rfl⟩
            rw [hL] at HLB ⊢
            have HL := hid_of hL
            clear hL
            have HO1 := hid_of HLB.out.2
            by_cases e1 : L = 0
            · subst e1
              go_wp2_with fail
              go_ret
              exact ⟨rfl, HO1.out⟩
            · have e1' : ((L : Int) == 0) = false := by rw [beq_eq_false_iff_ne]; omega
              by_cases e2 : (65536 : Int) < (L : Int) + 1
              · have hjl := jn_len hdr
                have hzz := HZ.out
                have hnn := HN.out
                have hLL := HL.out
                have k1 : IntKind.i64.wrap ((L : Int) + 1) = (L : Int) + 1 := IntWalk.i64_in _ (by omega)
                clear hjl hzz hnn hLL
                go_wp2_with fail
                go_ret
                exact ⟨rfl, HO1.out⟩
              · have k1 : IntKind.i64.wrap ((L : Int) + 1) = (L : Int) + 1 := IntWalk.i64_in _ (by omega)
                have hrow := HLB.out.1
                have hrow' : wc.ownsRow w0.heap.size 5 1 (.slice p3 L cp3) (jn hdr).length (bcells (jn hdr)) := hrow
                have hcv := rbuf_string hrow'
                have cM := mark_calls (jn hdr) wc
                clear hrow hrow'
                go_upto_if 129 with (go_at_call 14; go_fit cM; rintro e w' ⟨⟨bb, rfl, hbb⟩, rfl⟩)
                cases bb with
                | true =>
                  go_wp2_with fail
                  go_ret
                  exact ⟨rfl, HO1.out⟩
                | false =>
                have HNM : Hid ((jn hdr).take 3 ≠ mark) := fun h => by have := hbb.2 h; cases this
                clear hbb cM hcv
                obtain ⟨v4, w4, hr4, hl4⟩ := lb_lit HLB.out 10 10 rfl 36 (by rw [HL.out]; omega)
                have cc := clone_calls b o none n cap hdr w4 HN.out (by omega) (.inr rfl) (HST.out.only hl4.2 (fun h => h))
                have HL4 := hid_of hl4
                clear hl4
                go_upto_region 38 with (at_builtin; refine wpl_append_run rfl _ _ 36 rfl _ _ rfl rfl _ w4 hr4 ?_)
                clear hr4
                go_upto_region 39 with (go_at_call 8; go_fit cc; rintro e w5 ⟨rfl, hs5, ho5, hz5⟩)
                have hcv := rbuf_string (ownsRow_only HL4.out.1 ho5 (fun _ _ h => h))
                obtain ⟨hl, hhl⟩ : ∃ hl, jn hdr ++ [10] = hl := ⟨_, rfl⟩
                rw [hhl] at hcv
                have hhn : hl.length = L + 1 := by rw [← hhl, List.length_append, HL.out]; rfl
                obtain ⟨g, hg⟩ : ∃ g, w5.heap.size = g := ⟨_, rfl⟩
                have cN1 := new_calls g (hl ++ T) (str what) (some ⟨w4.heap.size, 0, none⟩) n n w5 hg (by rw [List.length_append]; omega)
                have HO5 : Hid (Only (fun _ => False) w0 w5) := HL4.out.2.trans ho5 (fun _ _ h => h)
                have HHD : Hid (Hdr w5 g (.slice (some ⟨w4.heap.size, 0, none⟩) n n) hdr) := .inr ⟨w4.heap.size, n, by rw [HN.out], hs5.strs, by omega, by rw [HN.out]; exact Nat.le_refl _⟩
                have HHL := hid_of hhl
                have HG := hid_of hg
                clear hs5 ho5 hz5 cc hhl hg HL4
                go_upto_region 41 with (go_at_call 10; go_fit cN1; rintro e w6 ⟨rfl, hm1, ho6, hz6⟩)
                have cN2 := new_calls (g + 6) (hl ++ (hl ++ T)) (str what) (some ⟨w4.heap.size, 0, none⟩) n n w6 hz6 (by rw [List.length_append, List.length_append]; omega)
                have HM1 := hid_of hm1
                have HO6 := hid_of ho6
                clear hm1 ho6 hz6 cN1 hcv
                go_upto_region 42 with (go_at_call 10; go_fit cN2; rintro e w7 ⟨rfl, hm2, ho7, hz7⟩)
                have hO7 : Only (fun _ => False) w0 w7 := (HO5.out.trans HO6.out (fun _ _ h => h)).trans ho7 (fun _ _ h => h)
                have hgz : w0.heap.size ≤ g := by have := HO5.out.size; have := HG.out; omega
                have hE7 : EnvW F w0.heap.size bE bF w7 := HE.out.only hO7 (fun _ _ h => h)
                have hE1 : EnvW F g bE bF w7 := hE7.up hgz
                have hE2 : EnvW F (g + 6) bE bF w7 := hE7.up (by omega)
                have hH7 : Hdr w7 g (.slice (some ⟨w4.heap.size, 0, none⟩) n n) hdr := (HHD.out.only HO6.out (fun _ _ h => h)).only ho7 (fun _ _ h => h)
                have hH7' : Hdr w7 (g + 6) (.slice (some ⟨w4.heap.size, 0, none⟩) n n) hdr := by
                  rcases hH7 with ⟨h1, h2⟩ | ⟨bb, cc, h1, h2, h3, h4⟩
                  · exact .inl ⟨h1, h2⟩
                  · exact .inr ⟨bb, cc, h1, h2, by omega, h4⟩
                have hh0 : hdr ≠ [] := by
                  intro h
                  have := HN.out
                  rw [h] at this
                  simp at this
                  omega
                have hj0 : jn hdr ≠ [] := by
                  intro h
                  have := HL.out
                  rw [h] at this
                  simp at this
                  omega
                have hq1 : ∀ data : List UInt8, qx (0, false) (hl ++ data) 0 = .ok hdr 1 1 (0, false) data := fun data => by
                  rw [← HHL.out]
                  exact qx_hdr hdr data hh0 hclean.out hj0 (by rw [HL.out]; omega)
                have hmk : ∀ data : List UInt8, (hl ++ data).take 3 ≠ mark := fun data => by
                  rw [← HHL.out]
                  exact no_mark hdr data mark rfl hj0 HNM.out
                have hR1 : RS g bE (.string (str what)) (.slice (some ⟨w4.heap.size, 0, none⟩) n n) hdr cv0 1 (0, false) T w7 :=
                  .inr ⟨hl ++ T, 1, HM1.out.only ho7 (fun _ _ h => h), by omega, hH7, rfl, hmk T, by rw [List.length_append]; omega, hq1 T⟩
                have hR2 : RS (g + 6) bE (.string (str what)) (.slice (some ⟨w4.heap.size, 0, none⟩) n n) hdr cv0 1 (0, false) (hl ++ T) w7 :=
                  .inr ⟨hl ++ (hl ++ T), 1, hm2, by omega, hH7', rfl, hmk _, by rw [List.length_append, List.length_append]; omega, hq1 _⟩
                have hfl6 : hdr.flatten.length ≤ 1000000 := by rw [HZ.out]; omega
                have cR := rsq_calls F (g + 6) bE bF (str what) (.slice (some ⟨w4.heap.size, 0, none⟩) n n) hdr cv0 1 (0, false) (hl ++ T) w7 hE2 hR2 (by rw [str_size]; omega) (by rw [HN.out]; omega) hfl6
                rw [hq1 T] at cR
                have HR1 := hid_of hR1
                have HO7 := hid_of hO7
                have HH7 := hid_of hH7
                have HQ1 := hid_of hq1
                clear hR1 hR2 hE7 hE1 hE2 hH7 hH7' hO7 hm2 ho7 hq1 hmk cN2 HHD HO5 HO6 HM1
                go_upto_region 43 with (go_at_call 11; go_fit cR; rintro e w8 ⟨q, m, qc, ln, E, rfl, hrd⟩)
                rcases hrd.out with ⟨hR, -⟩ | ⟨flds, a9, b9, s9, rest9, c2, bk, fc, hR, he, hst, hnl2, hbd2, ho8, hin8, hbk, hstr, hfb⟩
                · cases hR
                · simp only [QRes.ok.injEq] at hR
                  obtain ⟨hf9, rfl, rfl, rfl, rfl⟩ := hR
                  subst hf9
                  have heq : q = some ⟨bk, 0, none⟩ ∧ m = hdr.length ∧ qc = fc ∧ ln = ((1 + 1 : Nat) : Int) ∧ E = .nilIface := by
                    simp only [Ending.returned.injEq, Value.tuple.injEq] at he
                    have := congrArg Array.toList he
                    simp at this
                    refine ⟨this.1.1, this.1.2.1, this.1.2.2, ?_, this.2.2⟩
                    have h9 := this.2.1
                    omega
                  obtain ⟨rfl, rfl, rfl, rfl, rfl⟩ := heq
                  have hR8 := HR1.out.only ho8 (fun k hk h => by have h1 := ownT0 hk; have h2 := ownT0 h; omega) (fun k hk h => by have h2 := ownT0 h; omega)
                  have hO8 : Only (fun _ => False) w0 w8 := HO7.out.trans ho8 (fun k hk h => by have h2 := ownT0 h; omega)
                  have hH8 : Hdr w8 g (.slice (some ⟨w4.heap.size, 0, none⟩) n n) hdr := HH7.out.only ho8 (fun k hk h => by have h2 := ownT0 h; omega)
                  have hstrH : Strs w8 w4.heap.size 0 hdr := by
                    rcases hH8 with ⟨h1, -⟩ | ⟨bb, cc, h1, h2, -⟩
                    · cases h1
                    · simp only [Value.slice.injEq, Option.some.injEq, Addr.mk.injEq] at h1
                      rw [h1.1.1]
                      exact h2
                  have hI8 : Inv4 g (g + 6) bE (.string (str what)) (.slice (some ⟨w4.heap.size, 0, none⟩) n n) hdr w0 T 0 w8 := by
                    refine ⟨cv0, c2, (0, false), T, 1, hR8, hst, hnl2, by omega, fun j hj h => ?_, hO8, by omega⟩
                    have h1 := ownT0 hj
                    rcases hin8 j h with h2 | h2
                    · have := ownT0 h2; omega
                    · omega
                  have cE := same_calls (some ⟨bk, 0, none⟩) hdr.length qc (some ⟨w4.heap.size, 0, none⟩) n n hdr hdr w8 rfl HN.out hfb (by omega) (.inr ⟨bk, rfl, hstr⟩) (.inr ⟨w4.heap.size, rfl, hstrH⟩)
                  have HI8 := hid_of hI8
                  clear hrd he hst hnl2 hbd2 ho8 hin8 hbk hstr hfb hR8 hO8 hH8 hstrH hI8 cR HR1 HO7 HH7 HLB HO1
                  go_upto_region 45 with (go_at_call 12; go_fit cE; rintro e w9 ⟨⟨bb, rfl, hbb⟩, hq9⟩; obtain rfl := hbb.2 rfl)
                  have HI9 := hid_of (HI8.out.quiet hq9)
                  clear HI8 hq9 hbb cE
                  obtain ⟨hd, hhd⟩ : ∃ hd : Value, (.slice (some ⟨w4.heap.size, 0, none⟩) n n) = hd := ⟨_, rfl⟩
                  rw [hhd] at HI9
                  clear hhd
                  go_upto_block 8 with fail
                  go_wp2_with fail
                  go_loopg [21, 22, 23, 24, 25, 26, 27] (T.length + 3) (fun f v21 v22 v23 v24 v25 v26 v27 wr => ∃ k : Nat, v21 = .int .i64 (k : Int) ∧ k ≤ T.length ∧ T.length + 2 < f + k ∧ Hid (Inv4 g (g + 6) bE (.string (str what)) hd hdr w0 T k wr))
                  case atStart => exact ⟨0, rfl, by omega, by omega, HI9⟩
                  case round =>
                    obtain ⟨k, rfl, hk, hkf, hinv⟩ := hrel
                    obtain ⟨f, rfl⟩ : ∃ f, gk = f + 1 := ⟨gk - 1, by omega⟩
                    obtain ⟨c1, c2, s, rest, nl, i1, i2, i3, i4, i5, i6, i7⟩ := hinv.out
                    have hEw : EnvW F w0.heap.size bE bF wr := HE.out.only i6 (fun _ _ h => h)
                    have cR1 := rsq_calls F g bE bF (str what) hd hdr c1 nl s rest wr (hEw.up hgz) i1 (by rw [str_size]; omega) (by rw [HN.out]; omega) hfl6
                    obtain ⟨R, hR⟩ : ∃ R, qx s rest 0 = R := ⟨_, rfl⟩
                    rw [hR] at cR1
                    have k1 : IntKind.i64.wrap ((T.length : Int) + 1) = (T.length : Int) + 1 := IntWalk.i64_in _ (by omega)
                    have hkle : (k : Int) ≤ (T.length : Int) + 1 := by omega
                    have HR := hid_of hR
                    have HI1 := hid_of i1
                    have HI2 := hid_of i2
                    have HI5 := hid_of i5
                    have HI6 := hid_of i6
                    have HEW := hid_of hEw
                    clear hR i1 i2 i5 i6 hEw hinv HI9
                    go_upto_region 49 with (go_at_call 11; go_fit cR1; rintro e wA ⟨q1, m1, qc1, ln1, E1, rfl, hrd1⟩)
                    have ho1 : Only (ownT g c1) wr wA := by
                      rcases hrd1.out with ⟨-, -, -, -, h⟩ | ⟨-, -, -, -, -, -, -, -, -, -, -, -, -, h, -⟩
                      · exact h
                      · exact h
                    have hge1 := HI1.out.ins
                    have i2A := HI2.out.only ho1 (fun j hj h => HI5.out j h hj)
                    have hEA : EnvW F w0.heap.size bE bF wA := HEW.out.only ho1 (fun j hj h => by have := hge1 j h; omega)
                    have cR2 := rsq_calls F (g + 6) bE bF (str what) hd hdr c2 (nl + 1) s rest wA (hEA.up (by omega)) (.inl ⟨i2A, i3, i4⟩) (by rw [str_size]; omega) (by rw [HN.out]; omega) hfl6
                    rw [HR.out] at cR2
                    have HO1 := hid_of ho1
                    have HI2A := hid_of i2A
                    clear ho1 hge1 i2A hEA cR1
                    go_upto_region 50 with (go_at_call 11; go_fit cR2; rintro e wB ⟨q2, m2, qc2, ln2, E2, rfl, hrd2⟩)
                    clear cR2
                    rcases hrd1.out with ⟨hR1, t1, v1, he1, -⟩ | ⟨flds, a9, b9, s9, rest9, c1', bk1, fc1, hR1, he1, hst1, hnl1, hbd1, -, hin1, hbk1, hstr1, hfb1⟩
                    · rcases hrd2.out with ⟨-, t2, v2, he2, ho2⟩ | ⟨_, _, _, _, _, _, _, _, hR2, -⟩
                      · have hq1 : q1 = none ∧ m1 = 0 ∧ qc1 = 0 ∧ ln1 = 0 ∧ E1 = .iface t1 v1 := by
                          simp only [Ending.returned.injEq, Value.tuple.injEq] at he1
                          have := congrArg Array.toList he1
                          simp at this
                          exact ⟨this.1.1, this.1.2.1, this.1.2.2, this.2.1, this.2.2⟩
                        have hq2 : q2 = none ∧ m2 = 0 ∧ qc2 = 0 ∧ ln2 = 0 ∧ E2 = .iface t2 v2 := by
                          simp only [Ending.returned.injEq, Value.tuple.injEq] at he2
                          have := congrArg Array.toList he2
                          simp at this
                          exact ⟨this.1.1, this.1.2.1, this.1.2.2, this.2.1, this.2.2⟩
                        obtain ⟨rfl, rfl, rfl, rfl, rfl⟩ := hq1
                        obtain ⟨rfl, rfl, rfl, rfl, rfl⟩ := hq2
                        have HOF : Hid (Only (fun _ => False) w0 wB) := by
                          have h1 := HI1.out.ins
                          have h2 := HI2.out.ins
                          refine (HI6.out.trans HO1.out (fun j hj h => ?_)).trans ho2 (fun j hj h => ?_)
                          · have := h1 j h; omega
                          · have := h2 j h; omega
                        clear hrd1 hrd2 he1 he2 ho2 hR1
                        go_quiet (fail)
                        go_wp2_with fail
                        go_ret
                        exact ⟨rfl, HOF.out.drewN _⟩
                      · rw [hR1] at hR2; cases hR2
                    · rcases hrd2.out with ⟨hR2, -⟩ | ⟨flds2, a2, b2, s2, rest2, c2', bk2, fc2, hR2, he2, hst2, hnl2, hbd2, ho2, hin2, hbk2, hstr2, hfb2⟩
                      · rw [hR1] at hR2; cases hR2
                      · rw [hR1] at hR2
                        simp only [QRes.ok.injEq] at hR2
                        obtain ⟨rfl, rfl, rfl, rfl, rfl⟩ := hR2
                        obtain ⟨A, hA⟩ : ∃ A, nl + a9 = A := ⟨_, rfl⟩
                        have hA2 : nl + 1 + a9 = A + 1 := by omega
                        rw [hA] at he1
                        rw [hA2] at he2
                        have hq1 : q1 = some ⟨bk1, 0, none⟩ ∧ m1 = flds.length ∧ qc1 = fc1 ∧ ln1 = (A : Int) ∧ E1 = .nilIface := by
                          simp only [Ending.returned.injEq, Value.tuple.injEq] at he1
                          have := congrArg Array.toList he1
                          simp at this
                          exact ⟨this.1.1, this.1.2.1, this.1.2.2, this.2.1, this.2.2⟩
                        have hq2 : q2 = some ⟨bk2, 0, none⟩ ∧ m2 = flds.length ∧ qc2 = fc2 ∧ ln2 = (A : Int) + 1 ∧ E2 = .nilIface := by
                          simp only [Ending.returned.injEq, Value.tuple.injEq] at he2
                          have := congrArg Array.toList he2
                          simp at this
                          exact ⟨this.1.1, this.1.2.1, this.1.2.2, this.2.1, this.2.2⟩
                        obtain ⟨rfl, rfl, rfl, rfl, rfl⟩ := hq1
                        obtain ⟨rfl, hm2, rfl, rfl, rfl⟩ := hq2
                        subst hm2
                        have hab := qx_ab _ s rest 0 (Nat.le_refl _) (HR.out.trans hR1)
                        have hle := qx_le _ s rest 0 (Nat.le_refl _) (HR.out.trans hR1)
                        have hins1 := HI1.out.ins
                        have hins2 := HI2.out.ins
                        have hzA := HO1.out.size
                        have hD : ∀ j, ownT g c1' j → ¬ ownT (g + 6) c2 j := fun j hj h => by
                          rcases hin1 j hj with h' | h'
                          · exact HI5.out j h' h
                          · have := hins2 j h; omega
                        have hstr1B : Strs wB bk1 0 flds := hstr1.only ho2 (hD bk1 hbk1)
                        have hI : Inv4 g (g + 6) bE (.string (str what)) hd hdr w0 T (k + 1) wB := by
                          refine ⟨c1', c2', s9, rest9, nl + b9, .inl ⟨hst1.only ho2 hD, hnl1, by rw [← hnl1]; exact hbd1⟩, hst2, by rw [hnl2]; omega, by rw [hnl2] at hbd2; omega, fun j hj h => ?_, ?_, by omega⟩
                          · rcases hin2 j h with h' | h'
                            · exact hD j hj h'
                            · have := hst1.ins j hj; omega
                          · refine (HI6.out.trans HO1.out (fun j hj h => ?_)).trans ho2 (fun j hj h => ?_)
                            · have := hins1 j h; omega
                            · have := hins2 j h; omega
                        have hAb : A ≤ 1000000 := by rw [hnl1] at hbd1; omega
                        have k2 : IntKind.i64.wrap ((A : Int) + 1) = (A : Int) + 1 := IntWalk.i64_in _ (by omega)
                        have cE := fun m => same_calls (some ⟨bk1, 0, none⟩) flds.length qc1 (some ⟨bk2, 0, none⟩) flds.length qc2 flds flds (wB.drewN m) rfl rfl hfb1 hfb1 (.inr ⟨bk1, rfl, hstr1B⟩) (.inr ⟨bk2, rfl, hstr2⟩)
                        have HI := hid_of hI
                        have hk2 : k + 1 ≤ T.length := by omega
                        clear hrd1 hrd2 he1 he2 ho2 hR1 hst1 hst2 hnl1 hnl2 hbd1 hbd2 hin1 hin2 hbk1 hbk2 hstr1 hstr2 hfb1 hfb2 hab hle hins1 hins2 hzA hD hstr1B hI
                        go_quiet (fail)
                        go_wp2_with (go_at_call 12; go_fit (cE _); rintro e w5 ⟨⟨bb, rfl, hbb⟩, hq5⟩; obtain rfl := hbb.2 rfl)
                        go_roundg f
                        case measure => omega
                        case rel => exact ⟨k + 1, rfl, by omega, by omega, (HI.out.quiet ((Quiet.refl _).drewN _)).quiet hq5⟩
end Go.Proofs.Qxb6614395aFmt
