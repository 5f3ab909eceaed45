import Derived.Test.Qxb6614395aFmtW3
import Derived.Test.Qxb6614395aFmtL2
set_option linter.unusedSimpArgs false
set_option linter.unusedVariables false
namespace Go.Proofs.Qxb6614395aFmt
open Go Go.RowKit Go.Deep Go.Extern.Stop Go.Stop Go.Extern

/-- The rowLimit's cells. -/
def rlC (g : Nat) (a b : Int) (s : Nat × Bool) (e : Value) : List Value := [.iface 54 (.pointer (some ⟨g, 0, none⟩)), .int .i64 a, .int .i64 b, .int .i64 s.1, .bool s.2, e]

/-- What rowLimit.Read leaves, bytes being there to read: the chunk is in the buffer; all of it is passed on, or what lies ahead of the piece that is too long. -/
def RLPost (g : Nat) (T : List UInt8) (i o : Nat) (ch B : List UInt8) (s : Nat × Bool) (w : World) (e : Ending) (w' : World) : Prop :=
  SAt g 78 (srC T (i + ch.length)) w' ∧ SAt (g + 3) 5 (bcells (B.take o ++ (ch ++ B.drop (o + ch.length)))) w' ∧ Only (fun k => g ≤ k ∧ k < g + 4 ∧ k ≠ g + 2) w w' ∧
  ((e = .returned (.tuple #[.int .i64 (ch.length : Int), .nilIface]) ∧ fits s ch ∧ ∃ a b, SAt (g + 1) 68 (rlC g a b (adv s ch) .nilIface) w') ∨
   (∃ k N, e = .returned (.tuple #[.int .i64 ((k : Nat) : Int), .iface 99 (.pointer (some ⟨N, 0, none⟩))]) ∧ w.heap.size ≤ N ∧ IsC N w' ∧ k < ch.length ∧ fits s (ch.take k) ∧ 65536 < (adv s (ch.take k)).1 + lineLen (ch.drop k)))

attribute [local go_sem] str_size str_get str_extract str_toList str_append

set_option maxHeartbeats 1600000 in
set_option maxRecDepth 20000 in
theorem rl_calls (F : Interp) (g : Nat) (T : List UInt8) (i o n cap : Nat) (B : List UInt8) (a b : Int) (s : Nat × Bool) (w : World) (hF : F.answers w.tape) (hi : i < T.length) (hT : T.length ≤ 1000000000) (hs : s.1 ≤ 65536)
    (hg : SAt g 78 (srC T i) w) (hl : SAt (g + 1) 68 (rlC g a b s .nilIface) w) (hB : SAt (g + 3) 5 (bcells B) w) (hn : o + n ≤ B.length) (hB4 : B.length = 4096) (hcap : n ≤ cap) :
    Calls Tryf.prog 21 #[.pointer (some ⟨g + 1, 0, none⟩), .slice (some ⟨g + 3, o, none⟩) n cap] w (RLPost g T i o ((T.drop i).take n) B s w) := by
  obtain ⟨ch, hch⟩ : ∃ ch, (T.drop i).take n = ch := ⟨_, rfl⟩
  have hlen : ch.length = min n (T.length - i) := by rw [← hch]; simp
  obtain ⟨N, hN⟩ : ∃ N, ch.length = N := ⟨_, rfl⟩
  have hNn : N ≤ n := by omega
  have cR := sread_calls g (g + 3) T i o n cap B w hi hT (by omega) hg hB hn N (by omega)
  rw [hch]
  have HCH := hid_of hch
  have HN := hid_of hN
  have c0 := hl.cell (i := 0) rfl
  have c5 := hl.cell (i := 5) rfl
  have HL := hid_of hl
  clear hg hl hch hN hlen
  go_enter Tryf.func21, Tryf.ntmps21
  go_wp2_with (go_at_call 99; go_fit cR; rintro e w1 ⟨rfl, hg1, hB1, ho1⟩)
  rw [HCH.out] at hB1
  obtain ⟨B1, hB1e⟩ : ∃ B1, B.take o ++ (ch ++ B.drop (o + N)) = B1 := ⟨_, rfl⟩
  have hseg1 : Seg w1 (g + 3) o ch := by
    have := Seg.of_sat (o := o) hB1 N
    have e : ((B.take o ++ (ch ++ B.drop (o + N))).drop o).take N = ch := by
      have hl1 : (B.take o).length = o := by simp; omega
      have hl2 := HN.out
      rw [List.drop_append_of_le_length (by omega), List.drop_of_length_le (by omega), List.nil_append, List.take_append_of_le_length (by omega), List.take_of_length_le (by omega)]
    rwa [e] at this
  have hL1 : SAt (g + 1) 68 (rlC g a b s .nilIface) w1 := ho1.sat HL.out (by omega)
  have H1 := hid_of hg1
  have H2 := hid_of hB1
  have H3 := hid_of hseg1
  have H4 := hid_of hL1
  have H5 := hid_of ho1
  have HF : Hid (F.answers w1.tape) := by show F.answers _; rw [ho1.tape]; exact hF
  have hNl : N ≤ 4096 := by omega
  clear hg1 hB1 hseg1 hL1 ho1 hB1e cR c0 c5
  have fin : Hid (∀ W', Only (fun k => k = g + 1) w1 W' → SAt g 78 (srC T (i + ch.length)) W' ∧ SAt (g + 3) 5 (bcells (B.take o ++ (ch ++ B.drop (o + ch.length)))) W' ∧ Only (fun k => g ≤ k ∧ k < g + 4 ∧ k ≠ g + 2) w W') := by
    intro W' h
    rw [HN.out]
    exact ⟨h.sat H1.out (by omega), h.sat H2.out (by omega), (H5.out.mono (fun k _ hk => by omega)).trans h (fun k _ hk => by omega)⟩
  go_loopg [8] 4097 (fun f v8 wr => ∃ (st : Nat) (a b : Int), v8 = .int .i64 st ∧ st ≤ N ∧ N < f + st ∧ Hid (SAt (g + 1) 68 (rlC g a b (adv s (ch.take st)) .nilIface) wr) ∧ Hid (fits s (ch.take st)) ∧ Hid (Only (fun k => k = g + 1) w1 wr))
  case atStart => exact ⟨0, a, b, rfl, by omega, by omega, H4, trivial, Only.refl _ _⟩
  case round =>
    obtain ⟨st, a', b', rfl, hst, hf, hL, hfit, ho⟩ := hrel
    obtain ⟨f, rfl⟩ : ∃ f, gk = f + 1 := ⟨gk - 1, by omega⟩
    obtain ⟨s', hs'⟩ : ∃ s', adv s (ch.take st) = s' := ⟨_, rfl⟩
    rw [hs'] at hL
    have HS := hid_of hs'
    clear hs'
    obtain ⟨row, q⟩ := s'
    have hrow : row ≤ 65536 := by have := fits_le _ _ hfit.out hs; rw [HS.out] at this; exact this
    have c1 := hL.out.cell (i := 1) rfl
    have c2 := hL.out.cell (i := 2) rfl
    have c3 := hL.out.cell (i := 3) rfl
    have c4 := hL.out.cell (i := 4) rfl
    have f1 := hL.out.frozen 1
    have f2 := hL.out.frozen 2
    have f3 := hL.out.frozen 3
    have f4 := hL.out.frozen 4
    have f5 := hL.out.frozen 5
    simp only [] at c3 c4
    by_cases hlt : st < N
    · have hseg : Seg wr (g + 3) o ch := H3.out.of_block (ho.out.block _ H2.out.lt (by omega))
      have hdl : (ch.drop st).length = N - st := by rw [List.length_drop, HN.out]
      have cI := index_calls wr (g + 3) (o + st) (N - st) (cap - st) (ch.drop st) hdl (hseg.drop st) 10
      rw [show ((10 : Int).toNat).toUInt8 = 10 by rfl] at cI
      obtain ⟨mm, hmm⟩ : ∃ mm, lineLen (ch.drop st) = mm := ⟨_, rfl⟩
      have HMM := hid_of hmm
      have hm1 : 1 ≤ mm := by rw [← hmm]; exact lineLen_pos (by omega)
      have hm2 : st + mm ≤ N := by have := lineLen_le (ch.drop st); omega
      have HSEG := hid_of hseg
      clear hseg hmm
      obtain ⟨x, hx⟩ : ∃ x, Lib.indexByte (ch.drop st) 10 = x := ⟨_, rfl⟩
      have HX : Hid ((x = -1 ∧ st + mm = N) ∨ ∃ j : Nat, x = j ∧ mm = j + 1) := by
        rcases indexByte_cases (ch.drop st) 10 with ⟨e, hno⟩ | ⟨j, e, hj, hj2, hj3⟩
        · exact .inl ⟨by rw [← hx, e], by rw [← HMM.out, lineLen_none hno]; omega⟩
        · exact .inr ⟨j, by rw [← hx, e], by rw [← HMM.out, lineLen_some hj hj2 hj3]⟩
      rw [hx] at cI
      clear hx
      go_upto_if 39 with (go_at_call 30; go_fit cI; rintro e w2 ⟨rfl, rfl⟩)
      go_cut [9] from 40 to 43 (fun v9 wr' => v9 = .int .i64 ((st + mm : Nat) : Int) ∧ wr' = w2)
      case first =>
        rcases HX.out with ⟨rfl, hm3⟩ | ⟨j, rfl, hm3⟩
        · go_wp2_with fail
          go_meet
          exact ⟨congrArg (Value.int IntKind.i64) (by omega), rfl⟩
        · have hj0 : (0 : Int) ≤ (j : Int) := by omega
          go_wp2_with fail
          go_meet
          exact ⟨congrArg (Value.int IntKind.i64) (by omega), rfl⟩
      case rest =>
      obtain ⟨rfl, hw⟩ := hcut
      have hw' := hw.symm
      subst hw'
      clear hw cI
      by_cases htrip : 65536 < row + mm
      · have hE := fun o1 hh0 hh1 => errorf2_calls F b' 65536 w2.heap.size (w2.alloc o1) (by show F.answers _; rw [World.tape_alloc, ho.out.tape]; exact HF.out) hh0 hh1
        have c5' := fun o1 o2 k => (((hL.out.alloc o1).alloc o2).drewN k).cell (i := 5) rfl
        have f5' := fun o1 o2 k => (((hL.out.alloc o1).alloc o2).drewN k).frozen 5
        go_wp2_with (first | (go_at_call 31; go_fit (hE _ (by simp [go_sem]) (by simp [go_sem])); rintro e w3 ⟨rfl, sx, kx, rfl⟩))
        go_quiet (fail)
        go_wp2_with fail
        go_ret2
        have hO := ((((ho.out.alloc (.cells #[.iface 3 (.int .i64 b'), .iface 3 (.int .i64 65536)] 20)).alloc (.cells #[.string sx] 101)).drewN kx).setCell (a := ⟨g + 1, 5, none⟩) (.inl rfl) (.iface 99 (.pointer (some ⟨w2.heap.size + 1, 0, none⟩)))).drewN nq
        refine ⟨(fin.out _ hO).1, (fin.out _ hO).2.1, (fin.out _ hO).2.2, .inr ⟨st, w2.heap.size + 1, rfl, ?_, ?_, ?_, hfit.out, ?_⟩⟩
        · have := H5.out.size; have := ho.out.size; omega
        · have hnew := SAt.new (w2.alloc (.cells #[.iface 3 (.int .i64 b'), .iface 3 (.int .i64 65536)] 20)) [.string sx] 101
          rw [nblk_alloc] at hnew
          have h9 : Only (fun k => k = g + 1) ((w2.alloc (.cells #[.iface 3 (.int .i64 b'), .iface 3 (.int .i64 65536)] 20)).alloc (.cells #[.string sx] 101)) _ := (((Only.refl (fun k => k = g + 1) _).drewN kx).setCell (a := ⟨g + 1, 5, none⟩) (.inl rfl) (.iface 99 (.pointer (some ⟨w2.heap.size + 1, 0, none⟩)))).drewN nq
          exact h9.cells _ hnew.isC
        · rw [HN.out]; exact hlt
        · rw [HS.out, HMM.out]; exact htrip
      · have hcc : ∀ x : Int, x = row + mm → Calls Tryf.prog 32 #[.slice (some ⟨g + 3, o + st, none⟩) mm (cap - st), .slice (some ⟨w2.heap.size, 0, none⟩) 1 1] ((w2.setCell ⟨g + 1, 3, none⟩ (.int .i64 x)).alloc (.cells #[.int .u8 34] 5)) fun e w' =>
            e = .returned (.int .i64 (((((ch.drop st).take mm).count 34 : Nat)) : Int)) ∧ SAt (g + 1) 68 (rlC g a' b' (row + mm, q) .nilIface) w' ∧ Only (fun k => k = g + 1) w1 w' ∧ Seg w' (g + 3) o ch := by
          rintro x rfl
          have hsg : Seg ((w2.setCell ⟨g + 1, 3, none⟩ (.int .i64 (row + mm))).alloc (.cells #[.int .u8 34] 5)) (g + 3) o ch := by
            have hx : SAt (g + 3) 5 (bcells (B.take o ++ (ch ++ B.drop (o + N)))) w2 := ho.out.sat H2.out (by omega)
            exact HSEG.out.of_block ((hx.other (a := ⟨g + 1, 3, none⟩) (by simp) (.int .i64 (row + mm))).alloc _ |>.trans hx.symm)
          refine (count_calls _ (g + 3) (o + st) mm (cap - st) w2.heap.size ((ch.drop st).take mm) (by rw [List.length_take]; omega) ((hsg.drop st).take mm) 34 ?_).mono ?_
          · simp [go_sem]
          · rintro e w' ⟨rfl, rfl⟩
            refine ⟨rfl, ?_, ?_, hsg⟩
            · exact (hL.out.set' 3 _ (by simp [rlC])).alloc _
            · exact (ho.out.setCell (.inl rfl) _).alloc _
        obtain ⟨cnt, hcnt⟩ : ∃ cnt, ((ch.drop st).take mm).count 34 = cnt := ⟨_, rfl⟩
        rw [hcnt] at hcc
        have HCNT := hid_of hcnt
        have hcc' := hid_of hcc
        clear hcnt hcc
        go_upto_if 86 with (first | (go_at_call 32; go_fit (hcc'.out _ (by omega)); rintro e w3 ⟨rfl, hL3, ho3, hs3⟩))
        have HL3 := hid_of hL3
        have HO3 := hid_of ho3
        have HS3 := hid_of hs3
        clear hL3 ho3 hs3
        go_cut [] from 87 to 94 (fun wr' => SAt (g + 1) 68 (rlC g a' b' (row + mm, q ^^ odd ((ch.drop st).take mm)) .nilIface) wr' ∧ Only (fun k => k = g + 1) w1 wr' ∧ Seg wr' (g + 3) o ch)
        case first =>
          have c4' := HL3.out.cell (i := 4) rfl
          have f4' := HL3.out.frozen 4
          simp only [] at c4'
          have ho' : odd ((ch.drop st).take mm) = (cnt % 2 == 1) := by unfold odd; rw [HCNT.out]
          rcases Nat.mod_two_eq_zero_or_one cnt with hp | hp
          · have hp' : (((cnt : Int)) % 2 == 1) = false := by rw [beq_eq_false_iff_ne]; omega
            rw [hp] at ho'
            go_wp2_with fail
            go_meet
            rw [ho']
            simp only [Nat.reduceBEq, Bool.xor_false]
            exact ⟨HL3.out, HO3.out, HS3.out⟩
          · have hp' : (((cnt : Int)) % 2 == 1) = true := by rw [beq_iff_eq]; omega
            rw [hp] at ho'
            go_wp2_with fail
            go_meet
            rw [ho']
            refine ⟨HL3.out.set' 4 _ ?_, HO3.out.setCell (.inl rfl) _, HS3.out.of_block (blk_setCell_other _ _ _ _ (by simp))⟩
            simp [rlC]
        case rest =>
        obtain ⟨hL4, ho4, hs4⟩ := hcut
        have cE := hs4 (st + mm - 1) (by rw [HN.out]; omega)
        obtain ⟨q', hq'⟩ : ∃ q', (q ^^ odd ((ch.drop st).take mm)) = q' := ⟨_, rfl⟩
        rw [hq'] at hL4
        have HQ := hid_of hq'
        have d1 := hL4.cell (i := 1) rfl
        have d2 := hL4.cell (i := 2) rfl
        have d3 := hL4.cell (i := 3) rfl
        have d4 := hL4.cell (i := 4) rfl
        have e1 := hL4.frozen 1
        have e2 := hL4.frozen 2
        have e3 := hL4.frozen 3
        simp only [] at d3 d4
        have HL4 := hid_of hL4
        have HO4 := hid_of ho4
        have htk : ch.take (st + mm) = ch.take st ++ (ch.drop st).take mm := List.take_add
        have HTK := hid_of htk
        have htr : row + mm ≤ 65536 := by omega
        clear hL4 ho4 hs4 hq' htk
        rcases indexByte_cases (ch.drop st) 10 with ⟨e, hno⟩ | ⟨j, e, hj, hj2, hj3⟩
        · have hP := piece_none (row, q) hno
          rw [HMM.out] at hP
          have hne : (((ch[st + mm - 1]'(by rw [HN.out]; omega)).toNat : Int) == 10) = false := by
            rw [beq_eq_false_iff_ne]
            intro h
            apply hno
            have h' : ch[st + mm - 1]'(by rw [HN.out]; omega) = 10 := UInt8.toNat_inj.1 (by have : (10 : UInt8).toNat = 10 := rfl; omega)
            rw [← h', List.mem_drop_iff_getElem]
            exact ⟨mm - 1, by rw [HN.out]; omega, by congr 1; omega⟩
          have HP := hid_of hP
          clear e hno hP
          go_wp2_with fail
          go_roundg f
          case measure => omega
          case rel =>
            refine ⟨st + mm, a', b', rfl, by omega, by omega, ?_, ?_, HO4⟩
            · show SAt _ _ _ _
              rw [HTK.out, adv_append, HS.out, HP.out.1, HQ.out]
              exact HL4.out
            · show fits _ _
              rw [HTK.out, fits_append]
              exact ⟨hfit.out, by rw [HS.out]; exact HP.out.2 htr⟩
        · have hP := piece_some (row, q) hj hj2 hj3
          have hmj : mm = j + 1 := by rw [← HMM.out, lineLen_some hj hj2 hj3]
          rw [HMM.out] at hP
          have heq : ((ch[st + mm - 1]'(by rw [HN.out]; omega)).toNat : Int) = 10 := by
            have : ch[st + mm - 1]'(by rw [HN.out]; omega) = 10 := by
              rw [← hj2, List.getElem_drop]
              congr 1
              omega
            rw [this]; rfl
          rw [heq] at cE
          have HP := hid_of hP
          clear e hj2 hj3 hP heq hmj hj
          cases q' with
          | false =>
            go_wp2_with fail
            go_roundg f
            case measure => omega
            case rel =>
              refine ⟨st + mm, wrap64 (a' + 1), wrap64 (a' + 1), rfl, by omega, by omega, ?_, ?_, ((HO4.out.setCell (.inl rfl) _).setCell (.inl rfl) _).setCell (.inl rfl) _⟩
              · show SAt _ _ _ _
                rw [HTK.out, adv_append, HS.out, HP.out.1, HQ.out]
                exact ((HL4.out.set 1 _).set 3 _).set' 2 _ (by simp [rlC])
              · show fits _ _
                rw [HTK.out, fits_append]
                exact ⟨hfit.out, by rw [HS.out]; exact HP.out.2 htr⟩
          | true =>
            go_wp2_with fail
            go_roundg f
            case measure => omega
            case rel =>
              refine ⟨st + mm, wrap64 (a' + 1), b', rfl, by omega, by omega, ?_, ?_, HO4.out.setCell (.inl rfl) _⟩
              · show SAt _ _ _ _
                rw [HTK.out, adv_append, HS.out, HP.out.1, HQ.out]
                exact HL4.out.set' 1 _ (by simp [rlC])
              · show fits _ _
                rw [HTK.out, fits_append]
                exact ⟨hfit.out, by rw [HS.out]; exact HP.out.2 htr⟩
    · have : st = N := by omega
      subst this
      go_wp2_with fail
      go_ret2
      have hfull : ch.take st = ch := List.take_of_length_le (by rw [HN.out]; exact Nat.le_refl _)
      refine ⟨(fin.out _ ho.out).1, (fin.out _ ho.out).2.1, (fin.out _ ho.out).2.2, .inl ⟨by rw [HN.out]; rfl, by rw [← hfull]; exact hfit.out, a', b', ?_⟩⟩
      have := HS.out
      rw [hfull] at this
      rw [this]
      exact hL.out
end Go.Proofs.Qxb6614395aFmt
