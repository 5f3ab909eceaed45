import Derived.Test.Qxb6614395aFmtW33
import Derived.Test.Qxb6614395aFmtW30
set_option linter.unusedSimpArgs false
set_option linter.unusedVariables false
namespace Go.Proofs.Qxb6614395aFmt
open Go Go.RowKit Go.Deep Go.Extern.Stop Go.Stop Go.Extern
attribute [local go_sem] str_size str_get str_extract str_toList str_append

/-- How many bytes of the mark lie at the start. -/
def mk0 (T : List UInt8) : Nat := if T.take 3 = mark3 then 3 else 0
theorem spA_len : ∀ (l cur : List UInt8), (spA cur l).length ≤ l.length + 1
  | [], cur => by simp [spA]
  | b :: t, cur => by
    rw [spA]
    split
    · have := spA_len t []
      simp only [List.length_cons]
      omega
    · have := spA_len t (cur ++ [b])
      simp only [List.length_cons]
      omega
def ModP (T : List UInt8) (hdr : List (List UInt8)) (w : World) (e : Ending) (w' : World) : Prop :=
  ∃ p1 n1 c1 p2 n2 c2, e = .returned (.tuple #[.slice p1 n1 c1, .slice p2 n2 c2]) ∧ ModelAt w' w.heap.size (.slice p1 n1 c1) (.slice p2 n2 c2) (md hdr (T.length + 2) (mk0 T) (T.drop (mk0 T)) 0 false) ∧ Only (fun _ => False) w w'

set_option maxHeartbeats 6400000 in
set_option maxRecDepth 20000 in
theorem model_calls (T : List UInt8) (hd : Value) (hdr : List (List UInt8)) (w : World) (hT : T.length ≤ 600000) (hh : Hdr w w.heap.size hd hdr) (hn : hdr.length ≤ 1000000) :
    Calls Tryf.prog 9 #[.string (str T), hd] w (ModP T hdr w) := by
  unfold ModP
  obtain ⟨p, cap, n, hnl, rfl, hp⟩ : ∃ p cap n, hdr.length = n ∧ hd = .slice p n cap ∧ (n = 0 ∨ ∃ b, p = some ⟨b, 0, none⟩ ∧ Strs w b 0 hdr ∧ b < w.heap.size) := by
    rcases hh with ⟨h1, h2⟩ | ⟨b, cap, h1, h2, h3, h4⟩
    · exact ⟨none, 0, 0, by rw [h2]; rfl, h1, .inl rfl⟩
    · exact ⟨_, cap, _, rfl, h1, .inr ⟨b, rfl, h2, h3⟩⟩
  obtain ⟨RES, hRES⟩ : ∃ RES, md hdr (T.length + 2) (mk0 T) (T.drop (mk0 T)) 0 false = RES := ⟨_, rfl⟩
  rw [hRES]
  have HRES := hid_of hRES
  have HN := hid_of hnl
  have HP := hid_of hp
  rw [hnl] at hn
  clear hRES hnl hp hh
  go_enter Tryf.func9, Tryf.ntmps9
  go_upto_region 6 with fail
  go_loopg [6, 7, 8, 9, 10] (T.length + 1) (fun f v6 v7 v8 v9 v10 wr => ∃ (st k no F : Nat) (hh : Bool) (acc : Recs) (p1 : Option Addr) (n1 c1 : Nat) (p2 : Option Addr) (n2 c2 : Nat), v6 = .slice p1 n1 c1 ∧ v7 = .slice p2 n2 c2 ∧ v8 = .bool hh ∧ v9 = .int .i64 (no : Int) ∧ v10 = .int .i64 (st : Int) ∧ st ≤ T.length ∧ T.length < f + st ∧ no ≤ st ∧ acc.length ≤ st ∧ ((st = 0 ∧ k = mk0 T) ∨ (0 < st ∧ k = 0)) ∧ T.length < F + st ∧ Hid (acc ++ md hdr F k (T.drop (st + k)) no hh = RES) ∧ Hid (ModelAt wr w.heap.size (.slice p1 n1 c1) (.slice p2 n2 c2) acc) ∧ Hid (Only (fun _ => False) w wr))
  case atStart =>
    refine ⟨0, mk0 T, 0, T.length + 2, false, [], none, 0, 0, none, 0, 0, rfl, rfl, rfl, rfl, rfl, by omega, by omega, by omega, by simp, .inl ⟨rfl, rfl⟩, by omega, ?_, ModelAt.nil _ _, Only.refl _ _⟩
    show _ = _
    rw [Nat.zero_add]
    exact HRES.out
  case round =>
    obtain ⟨st, k, no, F, hv, acc, p1, n1, c1, p2, n2, c2, rfl, rfl, rfl, rfl, rfl, hst, hf, hno, hacc, hk, hF, hmd, hmod, ho⟩ := hrel
    obtain ⟨f, rfl⟩ : ∃ f, gk = f + 1 := ⟨gk - 1, by omega⟩
    have hmk : mk0 T = 0 ∨ (mk0 T = 3 ∧ T.take 3 = mark3) := by
      unfold mk0
      split
      · rename_i h; exact .inr ⟨rfl, h⟩
      · exact .inl rfl
    by_cases hlt : st < T.length
    · go_upto_block 2 with fail
      go_cut [11] from 21 to 32 (fun v11 wr' => ∃ e : Nat, v11 = .int .i64 (e : Int) ∧ wr' = wr ∧ st ≤ e ∧ e ≤ T.length ∧ Hid (10 ∉ (T.take e).drop st) ∧ Hid (e = T.length ∨ ∃ h : e < T.length, T[e] = 10))
      case first =>
        go_wp2_with fail
        go_loopg [11] (T.length + 1) (fun f2 v11 wr2 => ∃ e : Nat, v11 = .int .i64 (e : Int) ∧ wr2 = wr ∧ st ≤ e ∧ e ≤ T.length ∧ T.length < f2 + e ∧ Hid (10 ∉ (T.take e).drop st))
        case atStart =>
          refine ⟨st, rfl, rfl, by omega, by omega, by omega, ?_⟩
          show _ ∉ _
          rw [List.drop_eq_nil_of_le (by rw [List.length_take]; omega)]
          simp
        case round =>
          obtain ⟨e, rfl, hw, hse, heT, hf2, hn10⟩ := hrel
          subst hw
          obtain ⟨f2, rfl⟩ : ∃ f2, gk = f2 + 1 := ⟨gk - 1, by omega⟩
          by_cases hel : e < T.length
          · by_cases h10 : T[e] = 10
            · have hc' : ((T[e].toNat : Int)) = 10 := by rw [h10]; rfl
              go_wp2_with fail
              go_meet
              exact ⟨e, rfl, rfl, hse, heT, hn10, .inr ⟨hel, h10⟩⟩
            · have hc' : ¬ ((T[e].toNat : Int)) = 10 := fun h => h10 ((toNat_eq (n := 10) (by omega)).1 h)
              have hc2 : ((T[e].toNat : Int) == 10) = false := by simpa using hc'
              go_wp2_with fail
              go_roundg f2
              case measure => omega
              case rel =>
                refine ⟨e + 1, rfl, rfl, by omega, by omega, by omega, ?_⟩
                show _ ∉ _
                have ee : T.take (e + 1) = T.take e ++ [T[e]] := by rw [List.take_add_one, List.getElem?_eq_getElem hel]; rfl
                rw [ee, List.drop_append_of_le_length (by rw [List.length_take]; omega)]
                intro h
                rcases List.mem_append.1 h with h | h
                · exact hn10.out h
                · simp at h; exact h10 h.symm
          · obtain rfl : e = T.length := by omega
            go_wp2_with fail
            go_meet
            exact ⟨T.length, rfl, rfl, hse, heT, hn10, .inl rfl⟩
      case rest =>
      obtain ⟨e, rfl, hw, hse, heT, hn10, hend⟩ := hcut
      have hw' := hw.symm
      subst hw'
      clear hw
      obtain ⟨nx, hnx⟩ : ∃ nx, (e = T.length ∧ nx = e) ∨ ∃ h : e < T.length, T[e] = 10 ∧ nx = e + 1 := by
        rcases hend.out with h | ⟨h1, h2⟩
        · exact ⟨e, .inl ⟨h, rfl⟩⟩
        · exact ⟨e + 1, .inr ⟨h1, h2, rfl⟩⟩
      have hkk : k = 0 ∨ (k = 3 ∧ st = 0 ∧ T.take 3 = [239, 187, 191]) := by
        rcases hk with ⟨h1, h2⟩ | ⟨h1, h2⟩
        · rcases hmk with h | ⟨h, h3⟩
          · exact .inl (h2.trans h)
          · exact .inr ⟨h2.trans h, h1, h3⟩
        · exact .inl h2
      obtain ⟨hle, hll, hdr2, hstrip⟩ := line_facts T st k e nx hkk hlt hse heT hn10.out hnx
      have hnx1 : st < nx := by
        rcases hnx with ⟨h1, h2⟩ | ⟨h1, h2, h3⟩ <;> omega
      have hnx2 : nx ≤ T.length := by
        rcases hnx with ⟨h1, h2⟩ | ⟨h1, h2, h3⟩ <;> omega
      have he1 : e - 1 < T.length := by clear hle hll hdr2 hstrip; omega
      obtain ⟨cr, hcr⟩ : ∃ cr : Bool, cr = true ↔ ∃ h : st + k < e, T[e - 1]'he1 = 13 := by
        by_cases h : ∃ h : st + k < e, T[e - 1]'he1 = 13
        · exact ⟨true, by simpa using h⟩
        · exact ⟨false, by simpa using h⟩
      obtain ⟨hbody, hcre⟩ := body_facts T (st + k) e hle heT _ hstrip cr hcr
      obtain ⟨tt, htt⟩ : ∃ tt, (if cr = true then e - 1 else e) = tt := ⟨_, rfl⟩
      rw [htt] at hbody
      have htt1 : st + k ≤ tt ∧ tt ≤ T.length := by
        rw [← htt]
        split
        · rename_i h; have := hcre h; omega
        · omega
      have HNX := hid_of hnx
      have HCR := hid_of hcr
      have HTT := hid_of htt
      obtain ⟨F, rfl⟩ : ∃ F', F = F' + 1 := ⟨F - 1, by omega⟩
      have hne : ¬ (k = 0 ∧ T.drop (st + k) = []) := by
        rintro ⟨rfl, h⟩
        have := congrArg List.length h
        simp at this
        omega
      have HMD : Hid (acc ++ (if 65536 < nx - st then [] else if (T.take tt).drop (st + k) = [] then md hdr F 0 (T.drop nx) (no + 1) hv else if hv = true then (spA [] ((T.take tt).drop (st + k)), no + 1) :: md hdr F 0 (T.drop nx) (no + 1) true else if spA [] ((T.take tt).drop (st + k)) = hdr then md hdr F 0 (T.drop nx) (no + 1) true else []) = RES) := by
        show _ = _
        rw [← hmd.out, md, if_neg hne, hll, hdr2, hbody]
      have hF' : T.length < F + nx := by omega
      clear hnx hcr htt hmd hne hbody hcre hll hdr2 hstrip hend hn10
      have hdec : decide ((e : Int) < (T.length : Int)) = decide (e < T.length) := by
        by_cases h : e < T.length
        · simp [h]
        · simp [h]
      go_upto_if 37 with fail
      go_cut [12, 37] from 38 to 39 (fun v12 v37 wr' => v12 = .int .i64 (nx : Int) ∧ wr' = wr)
      case first =>
        rcases HNX.out with ⟨h1, rfl⟩ | ⟨h1, h2, rfl⟩
        · have h1' : ¬ nx < T.length := by omega
          clear h1
          go_wp2_with fail
          go_meet
          exact ⟨rfl, rfl⟩
        · clear h2
          go_wp2_with fail
          go_meet
          exact ⟨rfl, rfl⟩
      case rest =>
      obtain ⟨rfl, hw⟩ := hcut
      have hw' := hw.symm
      subst hw'
      clear hw
      by_cases htr : 65536 < nx - st
      · have i1 : (65536 : Int) < (nx : Int) - (st : Int) := by omega
        have HR : Hid (acc = RES) := by
          have := HMD.out
          rw [if_pos htr, List.append_nil] at this
          exact this
        clear HMD
        go_wp2_with fail
        go_ret2
        refine ⟨p1, n1, c1, p2, n2, c2, rfl, ?_, ho.out⟩
        have := hmod.out
        rw [HR.out] at this
        exact this
      · have i1 : ¬ (65536 : Int) < (nx : Int) - (st : Int) := by omega
        have HM2 : Hid (acc ++ (if (T.take tt).drop (st + k) = [] then md hdr F 0 (T.drop nx) (no + 1) hv else if hv = true then (spA [] ((T.take tt).drop (st + k)), no + 1) :: md hdr F 0 (T.drop nx) (no + 1) true else if spA [] ((T.take tt).drop (st + k)) = hdr then md hdr F 0 (T.drop nx) (no + 1) true else []) = RES) := by
          have := HMD.out
          rw [if_neg htr] at this
          exact this
        clear HMD htr
        go_upto_region 17 with fail
        go_cut [54] from 49 to 53 (fun v54 wr' => ∃ kb : Bool, v54 = .bool kb ∧ Hid (kb = true ↔ k = 3) ∧ wr' = wr)
        case first =>
          rcases hk with ⟨rfl, rfl⟩ | ⟨h1, rfl⟩
          · have cM := mark_calls T wr
            go_wp2_with (go_at_call 14; go_fit cM; rintro e wm ⟨⟨bb, rfl, hbb⟩, rfl⟩)
            go_meet
            refine ⟨bb, rfl, ?_, rfl⟩
            show bb = true ↔ _
            rw [hbb]
            unfold mk0
            split
            · rename_i h; exact ⟨fun _ => rfl, fun _ => h⟩
            · rename_i h; exact ⟨fun h' => absurd h' h, fun h' => by omega⟩
          · have h1' : ¬ ((st : Int) = 0) := by omega
            have h1'' : ((st : Int) == 0) = false := by simpa using h1'
            go_wp2_with fail
            go_meet
            exact ⟨false, rfl, by show _ ↔ _; simp, rfl⟩
        case rest =>
        obtain ⟨kb, rfl, hkb, hw⟩ := hcut
        have hw' := hw.symm
        subst hw'
        clear hw
        go_upto_if 54 with fail
        go_cut [13] from 54 to 54 (fun v13 wr' => v13 = .int .i64 ((st + k : Nat) : Int) ∧ wr' = wr)
        case first =>
          cases kb with
          | true =>
            have h3 : Hid (k = 3) := hkb.out.1 rfl
            have hs0 : Hid (st = 0) := by
              have := h3.out
              show st = 0
              rcases hk with ⟨h1, h2⟩ | ⟨h1, h2⟩ <;> omega
            clear hk hkk hmk
            go_wp2_with fail
            go_meet
            exact ⟨by rw [h3.out, hs0.out]; rfl, rfl⟩
          | false =>
            have h3 : Hid (k = 0) := by
              show k = 0
              have h4 : k ≠ 3 := fun h => by have := hkb.out.2 h; simp at this
              rcases hkk with h | ⟨h, -⟩
              · exact h
              · exact absurd h h4
            go_wp2_with fail
            go_meet
            exact ⟨by rw [h3.out]; rfl, rfl⟩
        case rest =>
        obtain ⟨rfl, hw⟩ := hcut
        have hw' := hw.symm
        subst hw'
        clear hw hkb
        obtain ⟨a, hae⟩ : ∃ a, st + k = a := ⟨_, rfl⟩
        rw [hae] at HM2 HCR htt1 hle ⊢
        have HAE := hid_of hae
        clear hk hkk hmk hae
        go_upto_region 20 with fail
        go_cut [65] from 56 to 64 (fun v65 wr' => v65 = .bool cr ∧ wr' = wr)
        case first =>
          by_cases hae : a < e
          · have i2 : (a : Int) < (e : Int) := by omega
            have i3 : IntKind.i64.wrap ((e : Int) - 1) = (e : Int) - 1 := IntWalk.i64_in _ (by omega)
            have i4 : ((e : Int) - 1).toNat = e - 1 := by omega
            have i5 : (0 : Int) ≤ (e : Int) - 1 := by omega
            have i6 : (e : Int) - 1 < (T.length : Int) := by omega
            cases cr with
            | true =>
              obtain ⟨h1, h2⟩ := HCR.out.1 rfl
              have h2' : ((T[e - 1]'he1).toNat : Int) = 13 := by rw [h2]; rfl
              clear h2
              go_wp2_with fail
              go_meet
              exact ⟨rfl, rfl⟩
            | false =>
              have h2 : ¬ ((T[e - 1]'he1).toNat : Int) = 13 := fun h => by
                have := HCR.out.2 ⟨hae, (toNat_eq (n := 13) (by omega)).1 h⟩
                simp at this
              have h2' : (((T[e - 1]'he1).toNat : Int) == 13) = false := by simpa using h2
              go_wp2_with fail
              go_meet
              exact ⟨rfl, rfl⟩
          · have hcf : Hid (cr = false) := by
              show cr = false
              cases cr with
              | false => rfl
              | true => exact absurd (HCR.out.1 rfl).1 hae
            have i2 : ¬ (a : Int) < (e : Int) := by omega
            go_wp2_with fail
            go_meet
            exact ⟨by rw [hcf.out], rfl⟩
        case rest =>
        obtain ⟨rfl, hw⟩ := hcut
        have hw' := hw.symm
        subst hw'
        clear hw
        go_upto_if 65 with fail
        go_cut [14] from 66 to 67 (fun v14 wr' => v14 = .int .i64 (tt : Int) ∧ wr' = wr)
        case first =>
          cases cr with
          | true =>
            obtain ⟨h1, -⟩ := HCR.out.1 rfl
            have h2 : Hid (tt = e - 1) := by have := HTT.out; rw [if_pos rfl] at this; exact this.symm
            have i3 : IntKind.i64.wrap ((e : Int) - 1) = (e : Int) - 1 := IntWalk.i64_in _ (by omega)
            go_wp2_with fail
            go_meet
            exact ⟨congrArg (Value.int IntKind.i64) (by have := h2.out; omega), rfl⟩
          | false =>
            have h2 : Hid (tt = e) := by have := HTT.out; rw [if_neg (by simp)] at this; exact this.symm
            go_wp2_with fail
            go_meet
            exact ⟨by rw [h2.out], rfl⟩
        case rest =>
        obtain ⟨rfl, hw⟩ := hcut
        have hw' := hw.symm
        subst hw'
        clear hw HCR HTT HNX
        obtain ⟨bd, hbd⟩ : ∃ bd, (T.take tt).drop a = bd := ⟨_, rfl⟩
        have hbl : bd.length = tt - a := by rw [← hbd, List.length_drop, List.length_take]; omega
        rw [hbd] at HM2
        by_cases hnil : tt = a
        · have hb0 : bd = [] := List.eq_nil_of_length_eq_zero (by omega)
          have HM3 : Hid (acc ++ md hdr F 0 (T.drop nx) (no + 1) hv = RES) := by
            have := HM2.out
            rw [if_pos hb0] at this
            exact this
          clear hb0 hbd hbl HM2
          subst hnil
          go_wp2_with fail
          go_roundg f
          case measure => omega
          case rel => exact ⟨nx, 0, no + 1, F, hv, acc, p1, n1, c1, p2, n2, c2, rfl, rfl, rfl, by go_num, rfl, by omega, by omega, by omega, by omega, .inr ⟨by omega, rfl⟩, by omega, by rw [Nat.add_zero]; exact HM3, hmod, ho⟩
        · have hb0 : bd ≠ [] := fun h => by rw [h] at hbl; simp at hbl; omega
          have HM3 : Hid (acc ++ (if hv = true then (spA [] bd, no + 1) :: md hdr F 0 (T.drop nx) (no + 1) true else if spA [] bd = hdr then md hdr F 0 (T.drop nx) (no + 1) true else []) = RES) := by
            have := HM2.out
            rw [if_neg hb0] at this
            exact this
          have hnil' : ¬ ((tt : Int) = (a : Int)) := by omega
          have hnil2 : ((tt : Int) == (a : Int)) = false := by simpa using hnil'
          have cS := split_calls bd wr (by omega)
          have i7 : (a : Int) ≤ (tt : Int) := by omega
          have i8 : (tt : Int) ≤ (T.length : Int) := by omega
          clear HM2 hb0
          obtain ⟨R, hR⟩ : ∃ R, spA [] bd = R := ⟨_, rfl⟩
          rw [hR] at cS HM3
          obtain ⟨m, hm⟩ : ∃ m, R.length = m := ⟨_, rfl⟩
          rw [hm] at cS
          have HMm := hid_of hm
          have hmb : m ≤ 100000000 := by
            have h1 := spA_len bd []
            rw [hR, hm] at h1
            omega
          clear hR hm
          go_upto_region 25 with (go_at_call 24; go_fit cS; rintro e w2 ⟨b, fc, rfl, hown, ho2⟩)
          have hoW2 : Only (fun _ => False) w w2 := ho.out.trans ho2 (fun _ _ h => h)
          have hmod2 := hmod.out.only ho2 (fun _ _ _ h => h)
          have hown2 := ownsRow_base hown ho.out.size
          cases hv with
          | true =>
            have HM4 : Hid (acc ++ [(R, no + 1)] ++ md hdr F 0 (T.drop nx) (no + 1) true = RES) := by
              have := HM3.out
              rw [if_pos rfl] at this
              show _ = _
              rw [← this]
              simp
            rw [← HMm.out] at hown2
            obtain ⟨b1, k1, w3, r1, b2, k2, w4, r2, hm4, ho4⟩ := ModelAt.add (no + 1) hoW2 hmod2 hown2 (by omega)
            rw [HMm.out] at r1
            have e1 : ((no + 1 : Nat) : Int) = (no : Int) + 1 := by omega
            rw [e1] at r2
            have HM5 := hid_of hm4
            have HO4 := hid_of ho4
            clear hown hown2 hmod2 hoW2 ho2 hmod ho HM3 cS hm4 ho4 e1
            go_wp2_with (first | (at_builtin; refine wpl_append_run rfl _ _ 25 rfl _ _ rfl rfl (.slice (some ⟨b1, 0, none⟩) (acc.length + 1) k1) w3 r1 ?_) | (at_builtin; refine wpl_append_run rfl _ _ 26 rfl _ _ rfl rfl (.slice (some ⟨b2, 0, none⟩) (acc.length + 1) k2) w4 r2 ?_))
            go_roundg f
            case measure => omega
            case rel => exact ⟨nx, 0, no + 1, F, true, acc ++ [(R, no + 1)], some ⟨b1, 0, none⟩, acc.length + 1, k1, some ⟨b2, 0, none⟩, acc.length + 1, k2, rfl, rfl, rfl, by go_num, rfl, by omega, by omega, by omega, by rw [List.length_append]; simp only [List.length_singleton]; omega, .inr ⟨by omega, rfl⟩, by omega, by rw [Nat.add_zero]; exact HM4, HM5, HO4⟩
          | false =>
            have HM4 : Hid (acc ++ (if R = hdr then md hdr F 0 (T.drop nx) (no + 1) true else []) = RES) := by
              have := HM3.out
              rw [if_neg (by simp)] at this
              exact this
            have cE := same_calls (some ⟨b, 0, none⟩) m fc p n cap R hdr w2 HMm.out HN.out (by omega) (by omega) (.inr ⟨b, rfl, fun i hi => by
              have h1 := hown.cellAt i (by have := HMm.out; omega)
              rw [strC_get R i hi] at h1
              rw [Nat.zero_add]
              exact h1⟩) (by
              rcases HP.out with h | ⟨hb, h1, h2, h3⟩
              · exact .inl h
              · exact .inr ⟨hb, h1, h2.only hoW2 (fun h => h)⟩)
            have HOW2 := hid_of hoW2
            have HMD2 := hid_of hmod2
            clear hown hown2 hmod2 hoW2 ho2 hmod ho HM3 cS
            go_upto_if 82 with (go_at_call 12; go_fit cE; rintro e w3 ⟨⟨bb, rfl, hbb⟩, hq3⟩)
            have HO3 : Hid (Only (fun _ => False) w w3) := HOW2.out.quiet hq3
            have HMD3 : Hid (ModelAt w3 w.heap.size (.slice p1 n1 c1) (.slice p2 n2 c2) acc) := HMD2.out.only (hq3.only (fun _ => False)) (fun _ _ _ h => h)
            cases bb with
            | true =>
              have HM5 : Hid (acc ++ md hdr F 0 (T.drop nx) (no + 1) true = RES) := by
                have := HM4.out
                rw [if_pos (hbb.1 rfl)] at this
                exact this
              clear HM4 hbb hq3
              go_wp2_with fail
              go_roundg f
              case measure => omega
              case rel => exact ⟨nx, 0, no + 1, F, true, acc, p1, n1, c1, p2, n2, c2, rfl, rfl, rfl, by go_num, rfl, by omega, by omega, by omega, by omega, .inr ⟨by omega, rfl⟩, by omega, by rw [Nat.add_zero]; exact HM5, HMD3, HO3⟩
            | false =>
              have HM5 : Hid (acc = RES) := by
                have := HM4.out
                rw [if_neg (fun h => by have := hbb.2 h; simp at this), List.append_nil] at this
                exact this
              clear HM4 hbb hq3
              go_wp2_with fail
              go_ret2
              refine ⟨p1, n1, c1, p2, n2, c2, rfl, ?_, HO3.out⟩
              have := HMD3.out
              rw [HM5.out] at this
              exact this
    · obtain rfl : st = T.length := by omega
      have hk0 : k = 0 := by
        rcases hk with ⟨h1, h2⟩ | ⟨h1, h2⟩
        · rcases hmk with h | ⟨h, h3⟩
          · omega
          · exfalso
            have := congrArg List.length h3
            simp [mark3] at this
            omega
        · exact h2
      have HR : Hid (acc = RES) := by
        have := hmd.out
        rw [hk0, Nat.add_zero, List.drop_length, md_nil, List.append_nil] at this
        exact this
      clear hmd hk hk0 hmk
      go_wp2_with fail
      go_ret2
      refine ⟨p1, n1, c1, p2, n2, c2, rfl, ?_, ho.out⟩
      have := hmod.out
      rw [HR.out] at this
      exact this
end Go.Proofs.Qxb6614395aFmt
