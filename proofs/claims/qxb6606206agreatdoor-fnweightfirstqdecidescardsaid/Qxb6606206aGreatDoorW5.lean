import Derived.Test.Qxb6606206aGreatDoorW4
import Derived.Deep.DeepCutAuto
set_option linter.unusedSimpArgs false
set_option linter.unusedVariables false
namespace Go.Proofs.Qxb6606206aGreatDoor
open Go Go.RowKit
attribute [local go_sem] frombits_run str_size str_get str_extract str_toList str_append

theorem hid_of {p : Prop} (h : p) : Hid p := h

/-- Does a text begin with a sign? -/
def sgn : List UInt8 → Bool
  | c :: _ => c == 45 || c == 43
  | [] => false
/-- The three ways of a base prefix. -/
def hasPre : List UInt8 → Bool
  | a :: b :: _ => a == 48 && (lowI b.toNat == 98 || lowI b.toNat == 111 || lowI b.toNat == 120)
  | _ => false
def hexPre : List UInt8 → Bool
  | a :: b :: _ => lowI b.toNat == 120
  | _ => false

set_option maxHeartbeats 6400000 in
set_option maxRecDepth 20000 in
theorem uok_gives (l : List UInt8) (hl : l.length ≤ 1000000000) : ∃ b, Gives 91 #[.string (str l)] (.bool b) := by
  have cL := lower_gives
  obtain ⟨l1, hl1⟩ : ∃ l1, l1 = if sgn l then l.drop 1 else l := ⟨_, rfl⟩
  have hlen : l1.length ≤ 1000000000 := by rw [hl1]; split <;> (try rw [List.length_drop]) <;> omega
  obtain ⟨hp, hhp⟩ : ∃ hp, hp = hasPre l1 := ⟨_, rfl⟩
  obtain ⟨hx, hhx⟩ : ∃ hx, hx = (hp && hexPre l1) := ⟨_, rfl⟩
  obtain ⟨i0, hi0⟩ : ∃ i0 : Nat, i0 = if hp then 2 else 0 := ⟨_, rfl⟩
  obtain ⟨c0, hc0⟩ : ∃ c0 : Int, c0 = if hp then 48 else 94 := ⟨_, rfl⟩
  have hi0l : i0 ≤ l1.length := by
    rw [hi0]
    split
    · rename_i h
      rw [hhp] at h
      match l1, h with
      | [], h => simp [hasPre] at h
      | [_], h => simp [hasPre] at h
      | _ :: _ :: _, h => simp
    · omega
  have hc0' : c0 = 48 ∨ c0 = 95 ∨ c0 = 33 ∨ c0 = 94 := by rw [hc0]; split <;> omega
  obtain ⟨R, hR⟩ : ∃ R, ul hx c0 (l1.drop i0) = R := ⟨_, rfl⟩
  have HR := hid_of hR
  have HL1 := hid_of hl1
  have HHP := hid_of hhp
  have HHX := hid_of hhx
  have HI0 := hid_of hi0
  have HC0 := hid_of hc0
  clear hR hl1 hhp hhx hi0 hc0
  refine ⟨R, fun w => ?_⟩
  go_enter Tryz.func91, Tryz.ntmps91
  go_upto_region 3 with fail
  go_cut [18] (fun v wr => v = .bool (sgn l) ∧ wr = w)
  case first =>
    cases l with
    | nil =>
      go_wp2
      go_meet
      exact ⟨rfl, rfl⟩
    | cons c t =>
      by_cases h1 : c = 45
      · subst h1
        go_wp2
        go_meet
        exact ⟨rfl, rfl⟩
      · by_cases h2 : c = 43
        · subst h2
          go_wp2
          go_meet
          exact ⟨rfl, rfl⟩
        · have g1 := ne_k (nat_ne (k := 45) h1 rfl)
          have g2 := ne_k (nat_ne (k := 43) h2 rfl)
          have hs : Hid (sgn (c :: t) = false) := by show _ = _; simp [sgn, h1, h2]
          clear h1 h2
          go_wp2
          go_meet
          rw [hs.out]
          exact ⟨rfl, rfl⟩
  case rest =>
  obtain ⟨rfl, hw⟩ := hcut
  have hw' := hw.symm
  subst hw'
  clear hw
  go_upto_if 18 with fail
  go_cut [0] (fun v wr => v = .string (str l1) ∧ wr = w)
  case first =>
    have hE := HL1.out
    cases hS : sgn l with
    | true =>
      rw [hS, if_pos rfl] at hE
      subst hE
      have hpos : 1 ≤ l.length := by
        cases l with
        | nil => simp [sgn] at hS
        | cons a b => simp
      go_wp2
      go_meet
      exact ⟨by simp, rfl⟩
    | false =>
      rw [hS] at hE
      simp only [Bool.false_eq_true, if_false] at hE
      subst hE
      go_wp2
      go_meet
      exact ⟨rfl, rfl⟩
  case rest =>
  obtain ⟨rfl, hw⟩ := hcut
  have hw' := hw.symm
  subst hw'
  clear hw
  go_upto_region 6 with fail
  go_cut [46] (fun v wr => v = .bool hp ∧ wr = w)
  case first =>
    have hE := HHP.out
    subst hE
    clear HR HL1 HHP HHX HI0 HC0 hc0' hi0l
    match l1 with
    | [] =>
      go_wp2
      go_meet
      exact ⟨rfl, rfl⟩
    | [a] =>
      go_wp2
      go_meet
      exact ⟨rfl, rfl⟩
    | a :: b :: t =>
      by_cases ha : a = 48
      · subst ha
        have hp1 : Hid (hasPre (48 :: b :: t) = (lowI b.toNat == 98 || lowI b.toNat == 111 || lowI b.toNat == 120)) := by show _ = _; simp [hasPre]
        obtain ⟨B, hB⟩ : ∃ B, lowI b.toNat = B := ⟨_, rfl⟩
        have cB : Gives 90 #[.int .u8 b.toNat] (.int .u8 B) := hB ▸ cL b.toNat
        rw [hB] at hp1
        clear hB cL
        cases h1 : (B == 98) with
        | true =>
          go_wp2_with (go_at_call 90; go_fit (cB _); rintro e w' ⟨rfl, rfl⟩)
          go_meet
          rw [hp1.out, h1]
          exact ⟨rfl, rfl⟩
        | false =>
          cases h2 : (B == 111) with
          | true =>
            go_wp2_with (go_at_call 90; go_fit (cB _); rintro e w' ⟨rfl, rfl⟩)
            go_meet
            rw [hp1.out, h1, h2]
            exact ⟨rfl, rfl⟩
          | false =>
            cases h3 : (B == 120) with
            | true =>
              go_wp2_with (go_at_call 90; go_fit (cB _); rintro e w' ⟨rfl, rfl⟩)
              go_meet
              rw [hp1.out, h1, h2, h3]
              exact ⟨rfl, rfl⟩
            | false =>
              go_wp2_with (go_at_call 90; go_fit (cB _); rintro e w' ⟨rfl, rfl⟩)
              go_meet
              rw [hp1.out, h1, h2, h3]
              exact ⟨rfl, rfl⟩
      · have g1 := ne_k (nat_ne (k := 48) ha rfl)
        have hp1 : Hid (hasPre (a :: b :: t) = false) := by show _ = _; simp [hasPre, ha]
        clear ha
        go_wp2
        go_meet
        rw [hp1.out]
        exact ⟨rfl, rfl⟩
  case rest =>
  obtain ⟨rfl, hw⟩ := hcut
  have hw' := hw.symm
  subst hw'
  clear hw
  go_upto_if 46 with fail
  go_cut [3, 4, 5] (fun v3 v4 v5 wr => v3 = .int .i32 c0 ∧ v4 = .int .i64 i0 ∧ v5 = .bool hx ∧ wr = w)
  case first =>
    have e1 := HHX.out
    have e2 := HI0.out
    have e3 := HC0.out
    have e4 := HHP.out
    clear HR HL1 HHP HHX HI0 HC0
    cases hp with
    | true =>
      simp only [if_true, Bool.true_and] at e1 e2 e3
      subst e1 e2 e3
      match l1, e4 with
      | [], e4 => simp [hasPre] at e4
      | [_], e4 => simp [hasPre] at e4
      | a :: b :: t, e4 =>
        clear e4
        have hp1 : Hid (hexPre (a :: b :: t) = (lowI b.toNat == 120)) := hid_of rfl
        obtain ⟨B, hB⟩ : ∃ B, lowI b.toNat = B := ⟨_, rfl⟩
        have cB : Gives 90 #[.int .u8 b.toNat] (.int .u8 B) := hB ▸ cL b.toNat
        rw [hB] at hp1
        clear hB cL
        obtain ⟨bb, hbb⟩ : ∃ bb, (B == 120) = bb := ⟨_, rfl⟩
        go_wp2_with (go_at_call 90; go_fit (cB _); rintro e w' ⟨rfl, rfl⟩)
        go_meet
        rw [hp1.out]
        exact ⟨rfl, rfl, by first | rfl | rw [hbb], rfl⟩
    | false =>
      simp only [if_false, Bool.false_and, Bool.false_eq_true] at e1 e2 e3
      subst e1 e2 e3
      clear e4
      go_wp2
      go_meet
      exact ⟨rfl, rfl, rfl, rfl⟩
  case rest =>
  obtain ⟨rfl, rfl, rfl, hw⟩ := hcut
  have hw' := hw.symm
  subst hw'
  clear hw
  go_wp2_with fail
  go_loopw [3, 4] (fun vc vi wr => ∃ (i : Nat) (c : Int), vi = .int .i64 i ∧ vc = .int .i32 c ∧ i ≤ l1.length ∧ wr = w ∧ (c = 48 ∨ c = 95 ∨ c = 33 ∨ c = 94) ∧ Hid (ul hx c (l1.drop i) = R)) (fun _ vi _ => l1.length - (intOf vi).toNat)
  case atStart => exact ⟨i0, c0, rfl, rfl, hi0l, rfl, hc0', HR⟩
  case round =>
    obtain ⟨i, c, rfl, rfl, hi, rfl, hc, hq⟩ := hrel
    clear HR HL1 HHP HHX HI0 HC0 hc0' hi0l
    by_cases hlt : i < l1.length
    · have hst := hid_of (ul_drop hx c l1 i hlt)
      have hb8 := UInt8.toNat_lt l1[i]
      obtain ⟨B, hB⟩ : ∃ B, lowI l1[i].toNat = B := ⟨_, rfl⟩
      have cB : Gives 90 #[.int .u8 l1[i].toNat] (.int .u8 B) := hB ▸ cL l1[i].toNat
      have hisd : isd hx l1[i] = ((decide (48 ≤ (l1[i].toNat : Int)) && decide ((l1[i].toNat : Int) ≤ 57)) || (hx && decide (97 ≤ B) && decide (B ≤ 102))) := by rw [← hB]; rfl
      clear hB cL
      obtain ⟨D, hD⟩ : ∃ D, isd hx l1[i] = D := ⟨_, rfl⟩
      have HD := hid_of hD
      rw [hD] at hisd
      clear hD
      by_cases d1 : 48 ≤ (l1[i].toNat : Int)
      · by_cases d2 : (l1[i].toNat : Int) ≤ 57
        · have hDt : D = true := by rw [hisd]; simp [d1, d2]
          rw [hDt] at HD
          clear hisd hDt
          go_wp2_with (go_at_call 90; go_fit (cB _); rintro e w' ⟨rfl, rfl⟩)
          refine ⟨⟨i + 1, 48, rfl, rfl, by omega, by trivial, by omega, ?_⟩, by simp [intOf]; omega⟩
          show _ = _
          rw [← hq.out, hst.out, HD.out, if_pos rfl]
        · cases hx with
          | false =>
            have hDf : D = false := by rw [hisd]; simp [d1, d2]
            rw [hDf] at HD
            clear hisd hDf
            by_cases h95 : (l1[i].toNat : Int) = 95
            · have cB5 : Gives 90 #[.int .u8 95] (.int .u8 B) := h95 ▸ cB
              by_cases h48 : c = 48
              · have hr := hid_of (show ul _ 95 (l1.drop (i + 1)) = R by rw [← hq.out, hst.out, HD.out, if_neg (by simp), if_pos h95, if_pos h48])
                subst h48
                clear hq hst
                go_wp2_with (go_at_call 90; first | go_fit (cB _) | go_fit (cB5 _); rintro e w' ⟨rfl, rfl⟩)
                exact ⟨⟨i + 1, 95, rfl, rfl, by omega, by trivial, by omega, hr⟩, by simp [intOf]; omega⟩
              · have hr : Hid (R = false) := by show _ = _; rw [← hq.out, hst.out, HD.out, if_neg (by simp), if_pos h95, if_neg h48]
                have h48' : (c == 48) = false := beq_eq_false_iff_ne.2 h48
                have h48'' : (c != 48) = true := bne_iff_ne.2 h48
                clear hq hst
                go_wp2_with (go_at_call 90; first | go_fit (cB _) | go_fit (cB5 _); rintro e w' ⟨rfl, rfl⟩)
                go_ret
                rw [hr.out]
                exact ⟨rfl, rfl⟩
            · have h95' := ne_k h95
              by_cases h48 : c = 95
              · have hr : Hid (R = false) := by show _ = _; rw [← hq.out, hst.out, HD.out, if_neg (by simp), if_neg h95, if_pos h48]
                subst h48
                clear hq hst
                go_wp2_with (go_at_call 90; go_fit (cB _); rintro e w' ⟨rfl, rfl⟩)
                go_ret
                rw [hr.out]
                exact ⟨rfl, rfl⟩
              · have h48' : (c == 95) = false := beq_eq_false_iff_ne.2 h48
                go_wp2_with (go_at_call 90; go_fit (cB _); rintro e w' ⟨rfl, rfl⟩)
                refine ⟨⟨i + 1, 33, rfl, rfl, by omega, by trivial, by omega, ?_⟩, by simp [intOf]; omega⟩
                show _ = _
                rw [← hq.out, hst.out, HD.out, if_neg (by simp), if_neg h95, if_neg h48]
          | true =>
            by_cases a1 : 97 ≤ B
            · by_cases a2 : B ≤ 102
              · have hDt : D = true := by rw [hisd]; simp [d1, d2, a1, a2]
                rw [hDt] at HD
                clear hisd hDt
                go_wp2_with (go_at_call 90; go_fit (cB _); rintro e w' ⟨rfl, rfl⟩)
                refine ⟨⟨i + 1, 48, rfl, rfl, by omega, by trivial, by omega, ?_⟩, by simp [intOf]; omega⟩
                show _ = _
                rw [← hq.out, hst.out, HD.out, if_pos rfl]
              · have hDf : D = false := by rw [hisd]; simp [d1, d2, a1, a2]
                rw [hDf] at HD
                clear hisd hDf
                by_cases h95 : (l1[i].toNat : Int) = 95
                · have cB5 : Gives 90 #[.int .u8 95] (.int .u8 B) := h95 ▸ cB
                  by_cases h48 : c = 48
                  · have hr := hid_of (show ul _ 95 (l1.drop (i + 1)) = R by rw [← hq.out, hst.out, HD.out, if_neg (by simp), if_pos h95, if_pos h48])
                    subst h48
                    clear hq hst
                    go_wp2_with (go_at_call 90; first | go_fit (cB _) | go_fit (cB5 _); rintro e w' ⟨rfl, rfl⟩)
                    exact ⟨⟨i + 1, 95, rfl, rfl, by omega, by trivial, by omega, hr⟩, by simp [intOf]; omega⟩
                  · have hr : Hid (R = false) := by show _ = _; rw [← hq.out, hst.out, HD.out, if_neg (by simp), if_pos h95, if_neg h48]
                    have h48' : (c == 48) = false := beq_eq_false_iff_ne.2 h48
                    have h48'' : (c != 48) = true := bne_iff_ne.2 h48
                    clear hq hst
                    go_wp2_with (go_at_call 90; first | go_fit (cB _) | go_fit (cB5 _); rintro e w' ⟨rfl, rfl⟩)
                    go_ret
                    rw [hr.out]
                    exact ⟨rfl, rfl⟩
                · have h95' := ne_k h95
                  by_cases h48 : c = 95
                  · have hr : Hid (R = false) := by show _ = _; rw [← hq.out, hst.out, HD.out, if_neg (by simp), if_neg h95, if_pos h48]
                    subst h48
                    clear hq hst
                    go_wp2_with (go_at_call 90; go_fit (cB _); rintro e w' ⟨rfl, rfl⟩)
                    go_ret
                    rw [hr.out]
                    exact ⟨rfl, rfl⟩
                  · have h48' : (c == 95) = false := beq_eq_false_iff_ne.2 h48
                    go_wp2_with (go_at_call 90; go_fit (cB _); rintro e w' ⟨rfl, rfl⟩)
                    refine ⟨⟨i + 1, 33, rfl, rfl, by omega, by trivial, by omega, ?_⟩, by simp [intOf]; omega⟩
                    show _ = _
                    rw [← hq.out, hst.out, HD.out, if_neg (by simp), if_neg h95, if_neg h48]
            · have hDf : D = false := by rw [hisd]; simp [d1, d2, a1]
              rw [hDf] at HD
              clear hisd hDf
              by_cases h95 : (l1[i].toNat : Int) = 95
              · have cB5 : Gives 90 #[.int .u8 95] (.int .u8 B) := h95 ▸ cB
                by_cases h48 : c = 48
                · have hr := hid_of (show ul _ 95 (l1.drop (i + 1)) = R by rw [← hq.out, hst.out, HD.out, if_neg (by simp), if_pos h95, if_pos h48])
                  subst h48
                  clear hq hst
                  go_wp2_with (go_at_call 90; first | go_fit (cB _) | go_fit (cB5 _); rintro e w' ⟨rfl, rfl⟩)
                  exact ⟨⟨i + 1, 95, rfl, rfl, by omega, by trivial, by omega, hr⟩, by simp [intOf]; omega⟩
                · have hr : Hid (R = false) := by show _ = _; rw [← hq.out, hst.out, HD.out, if_neg (by simp), if_pos h95, if_neg h48]
                  have h48' : (c == 48) = false := beq_eq_false_iff_ne.2 h48
                  have h48'' : (c != 48) = true := bne_iff_ne.2 h48
                  clear hq hst
                  go_wp2_with (go_at_call 90; first | go_fit (cB _) | go_fit (cB5 _); rintro e w' ⟨rfl, rfl⟩)
                  go_ret
                  rw [hr.out]
                  exact ⟨rfl, rfl⟩
              · have h95' := ne_k h95
                by_cases h48 : c = 95
                · have hr : Hid (R = false) := by show _ = _; rw [← hq.out, hst.out, HD.out, if_neg (by simp), if_neg h95, if_pos h48]
                  subst h48
                  clear hq hst
                  go_wp2_with (go_at_call 90; go_fit (cB _); rintro e w' ⟨rfl, rfl⟩)
                  go_ret
                  rw [hr.out]
                  exact ⟨rfl, rfl⟩
                · have h48' : (c == 95) = false := beq_eq_false_iff_ne.2 h48
                  go_wp2_with (go_at_call 90; go_fit (cB _); rintro e w' ⟨rfl, rfl⟩)
                  refine ⟨⟨i + 1, 33, rfl, rfl, by omega, by trivial, by omega, ?_⟩, by simp [intOf]; omega⟩
                  show _ = _
                  rw [← hq.out, hst.out, HD.out, if_neg (by simp), if_neg h95, if_neg h48]
      · cases hx with
        | false =>
          have hDf : D = false := by rw [hisd]; simp [d1]
          rw [hDf] at HD
          clear hisd hDf
          have h95 : ¬ (l1[i].toNat : Int) = 95 := by omega
          have h95' := ne_k h95
          by_cases h48 : c = 95
          · have hr : Hid (R = false) := by show _ = _; rw [← hq.out, hst.out, HD.out, if_neg (by simp), if_neg h95, if_pos h48]
            subst h48
            clear hq hst
            go_wp2_with (go_at_call 90; go_fit (cB _); rintro e w' ⟨rfl, rfl⟩)
            go_ret
            rw [hr.out]
            exact ⟨rfl, rfl⟩
          · have h48' : (c == 95) = false := beq_eq_false_iff_ne.2 h48
            go_wp2_with (go_at_call 90; go_fit (cB _); rintro e w' ⟨rfl, rfl⟩)
            refine ⟨⟨i + 1, 33, rfl, rfl, by omega, by trivial, by omega, ?_⟩, by simp [intOf]; omega⟩
            show _ = _
            rw [← hq.out, hst.out, HD.out, if_neg (by simp), if_neg h95, if_neg h48]
        | true =>
          by_cases a1 : 97 ≤ B
          · by_cases a2 : B ≤ 102
            · have hDt : D = true := by rw [hisd]; simp [d1, a1, a2]
              rw [hDt] at HD
              clear hisd hDt
              go_wp2_with (go_at_call 90; go_fit (cB _); rintro e w' ⟨rfl, rfl⟩)
              refine ⟨⟨i + 1, 48, rfl, rfl, by omega, by trivial, by omega, ?_⟩, by simp [intOf]; omega⟩
              show _ = _
              rw [← hq.out, hst.out, HD.out, if_pos rfl]
            · have hDf : D = false := by rw [hisd]; simp [d1, a1, a2]
              rw [hDf] at HD
              clear hisd hDf
              have h95 : ¬ (l1[i].toNat : Int) = 95 := by omega
              have h95' := ne_k h95
              by_cases h48 : c = 95
              · have hr : Hid (R = false) := by show _ = _; rw [← hq.out, hst.out, HD.out, if_neg (by simp), if_neg h95, if_pos h48]
                subst h48
                clear hq hst
                go_wp2_with (go_at_call 90; go_fit (cB _); rintro e w' ⟨rfl, rfl⟩)
                go_ret
                rw [hr.out]
                exact ⟨rfl, rfl⟩
              · have h48' : (c == 95) = false := beq_eq_false_iff_ne.2 h48
                go_wp2_with (go_at_call 90; go_fit (cB _); rintro e w' ⟨rfl, rfl⟩)
                refine ⟨⟨i + 1, 33, rfl, rfl, by omega, by trivial, by omega, ?_⟩, by simp [intOf]; omega⟩
                show _ = _
                rw [← hq.out, hst.out, HD.out, if_neg (by simp), if_neg h95, if_neg h48]
          · have hDf : D = false := by rw [hisd]; simp [d1, a1]
            rw [hDf] at HD
            clear hisd hDf
            have h95 : ¬ (l1[i].toNat : Int) = 95 := by omega
            have h95' := ne_k h95
            by_cases h48 : c = 95
            · have hr : Hid (R = false) := by show _ = _; rw [← hq.out, hst.out, HD.out, if_neg (by simp), if_neg h95, if_pos h48]
              subst h48
              clear hq hst
              go_wp2_with (go_at_call 90; go_fit (cB _); rintro e w' ⟨rfl, rfl⟩)
              go_ret
              rw [hr.out]
              exact ⟨rfl, rfl⟩
            · have h48' : (c == 95) = false := beq_eq_false_iff_ne.2 h48
              go_wp2_with (go_at_call 90; go_fit (cB _); rintro e w' ⟨rfl, rfl⟩)
              refine ⟨⟨i + 1, 33, rfl, rfl, by omega, by trivial, by omega, ?_⟩, by simp [intOf]; omega⟩
              show _ = _
              rw [← hq.out, hst.out, HD.out, if_neg (by simp), if_neg h95, if_neg h48]
    · have hR := hid_of ((ul_end hx c l1 i (by omega)).symm.trans hq.out)
      clear hq
      go_wp2_with fail
      go_ret
      refine ⟨?_, rfl⟩
      rw [← hR.out]
      rfl
end Go.Proofs.Qxb6606206aGreatDoor
