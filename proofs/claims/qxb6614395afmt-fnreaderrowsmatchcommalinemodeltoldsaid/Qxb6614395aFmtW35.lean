import Derived.Test.Qxb6614395aFmtW32
import Derived.Test.Qxb6614395aFmtW34
import Derived.Test.Qxb6614395aFmtL7
set_option linter.unusedSimpArgs false
set_option linter.unusedVariables false
namespace Go.Proofs.Qxb6614395aFmt
open Go Go.RowKit Go.Deep Go.Extern.Stop Go.Stop Go.Extern
attribute [local go_sem] str_size str_get str_extract str_toList str_append eqlS_nil eqlS_some neqS_nil

/-- The next call of Reader.Read gives R. -/
def NextR (F : Interp) (g : Nat) (bE bF : Addr) (what hd : Value) (c : CV) (R : RRes) (w : World) : Prop :=
  Calls Tryf.prog 11 #[.pointer (some ⟨g + 5, 0, none⟩)] w (RDP g bE what hd c R w) ∧ (∀ k, ownT g c k → g ≤ k) ∧ GoodR R

theorem sent_up {g g' : Nat} {bE bF : Addr} {w : World} (h : Sent g bE bF w) (hg : g ≤ g') : Sent g' bE bF w := ⟨h.e, h.f, h.ne, by have := h.eg; omega, by have := h.fg; omega, by have := h.g10; omega, h.ce, h.cf⟩

theorem next_first (F : Interp) (g : Nat) (bE bF : Addr) (T : List UInt8) (what : ByteArray) (hd : Value) (hdr : List (List UInt8)) (w : World) (hF : F.answers w.tape) (hS : Sent g bE bF w) (hm : Made g T (.string what) hd w) (hz : g + 6 ≤ w.heap.size)
    (hh : Hdr w g hd hdr) (hwh : what.size ≤ 1000000) (hn : hdr.length ≤ 1000000) (hl : hdr.flatten.length ≤ 1000000) (h34 : 34 ∉ T) (hT : T.length ≤ 600000) :
    NextR F g bE bF (.string what) hd cv0 (hres hdr nxt (nxt (mk0 T, false) (T.drop (mk0 T)) 0)) w := by
  have e1 : (if T.take 3 = mark then ((3 : Nat), false) else (0, false)) = (mk0 T, false) := by
    unfold mk0
    show (if T.take 3 = mark3 then _ else _) = _
    split <;> rfl
  have e2 : (if T.take 3 = mark then T.drop 3 else T) = T.drop (mk0 T) := by
    unfold mk0
    show (if T.take 3 = mark3 then _ else _) = _
    split <;> rfl
  have h34' : 34 ∉ T.drop (mk0 T) := fun h => h34 (List.mem_of_mem_drop h)
  have hlen : 0 + (T.drop (mk0 T)).length ≤ 1000000 := by rw [List.length_drop]; omega
  have hgood := good_nxt (s := (mk0 T, false)) h34' hlen
  refine ⟨read0_calls F g bE bF T what hd hdr (nxt (mk0 T, false) (T.drop (mk0 T)) 0) nxt w hF hS hm hz hh hwh hn hl (by rw [e1, e2]; exact csv_reads F g bE bF _ _ 0 h34' hlen) ?_, ?_, ?_⟩
  · intro ln s rest hR
    rw [hR] at hgood
    exact csv_reads F g bE bF s rest ln hgood.1 hgood.2
  · intro k hk
    rcases hk with h | h
    · rcases ownR0 h with h | h
      · unfold own at h; omega
      · omega
    · omega
  · cases e : nxt (mk0 T, false) (T.drop (mk0 T)) 0 with
    | err => trivial
    | ok flds ln s rest =>
      rw [e] at hgood
      show GoodR (if flds = hdr then nxt s rest ln else .err)
      split
      · exact good_nxt hgood.1 hgood.2
      · trivial
theorem next_more (F : Interp) (g : Nat) (bE bF : Addr) (what hd : Value) (c : CV) (s : Nat × Bool) (rest : List UInt8) (ln : Nat) (w : World) (hF : F.answers w.tape) (hS : Sent g bE bF w) (hst : RdSt g bE what hd c s rest w) (hnl : c.nl = ln) (hg : ∀ k, ownT g c k → g ≤ k) (h34 : 34 ∉ rest) (hn : ln + rest.length ≤ 1000000) :
    NextR F g bE bF what hd c (nxt s rest ln) w :=
  ⟨read_calls F g bE bF what hd c s rest ln _ w hF hS hst hnl (csv_reads F g bE bF s rest ln h34 hn), hg, good_nxt h34 hn⟩
theorem first_rows (T : List UInt8) (hdr : List (List UInt8)) (h34 : 34 ∉ T) : md hdr (T.length + 2) (mk0 T) (T.drop (mk0 T)) 0 false = rowsR (hres hdr nxt (nxt (mk0 T, false) (T.drop (mk0 T)) 0)) := by
  rw [md_hdr hdr _ _ _ _ (by rw [List.length_drop]; omega) (fun h => h34 (List.mem_of_mem_drop h)) (by unfold mk0; split <;> omega)]
  cases e : nxt (mk0 T, false) (T.drop (mk0 T)) 0 with
  | err => rfl
  | ok flds ln s rest =>
    show (if flds = hdr then rows s rest ln else []) = rowsR (if flds = hdr then nxt s rest ln else .err)
    split
    · rw [rowsR_nxt]
    · rfl

theorem md_len (hdr : List (List UInt8)) : ∀ (f k : Nat) (rest : List UInt8) (no : Nat) (hh : Bool), (md hdr f k rest no hh).length ≤ f
  | 0, _, _, _, _ => by simp [md]
  | f + 1, k, rest, no, hh => by
    have h1 := md_len hdr f 0 (rest.drop (lineLen rest)) (no + 1) hh
    have h2 := md_len hdr f 0 (rest.drop (lineLen rest)) (no + 1) true
    rw [md]
    repeat' split
    all_goals simp
    all_goals omega
theorem own_len {w : World} {base e size n m c : Nat} {p : Option Addr} {xs : List Value} (h : w.ownsRow base e size (.slice p m c) n xs) : m = n := by
  rcases h.2 with ⟨h1, h2⟩ | ⟨b, cap, cur, h1, -⟩
  · simp only [Value.slice.injEq] at h1
    omega
  · simp only [Value.slice.injEq] at h1
    exact h1.2.1
/-- What the law gives. -/
def LawP (w : World) (e : Ending) (w' : World) : Prop := e = .returned (.bool true) ∧ Only (fun _ => False) w w'

set_option maxHeartbeats 6400000 in
set_option maxRecDepth 20000 in
theorem law3_calls (F : Interp) (bE bF : Addr) (T what : List UInt8) (hv : Value) (hdr : List (List UInt8)) (w : World) (hF : F.answers w.tape) (hS : Sent w.heap.size bE bF w) (hA : HArg w hv hdr) (hT : T.length ≤ 9223372036854775807) (hW : what.length ≤ 9223372036854775807) :
    Calls Tryf.prog 3 #[.string (str T), .string (str what), hv] w (LawP w) := by
  have cB := bytes_calls T what hv hdr w hT hW hA
  obtain ⟨p, n, cap, rfl, hnl, hAc⟩ : ∃ p n cap, hv = .slice p n cap ∧ hdr.length = n ∧ (n = 0 ∨ ∃ b o, p = some ⟨b, o, none⟩ ∧ Strs w b o hdr) := by
    rcases hA with ⟨h1, h2⟩ | ⟨b, o, sp, cap, h1, h2, h3, h4, h5, h6⟩
    · exact ⟨none, 0, 0, h1, by rw [h2]; rfl, .inl rfl⟩
    · refine ⟨_, _, cap, h1, rfl, ?_⟩
      rcases h2 with h | h
      · exact .inl h
      · exact .inr ⟨b, o, by rw [h], h3⟩
  have HA := hid_of hA
  have HF := hid_of hF
  have HS := hid_of hS
  have HN := hid_of hnl
  clear hA hF hS hnl
  go_enter Tryf.func3, Tryf.ntmps3
  go_upto_if 21 with (go_at_call 7; go_fit cB; rintro e w0 ⟨⟨bb, rfl, hbb⟩, rfl⟩)
  cases bb with
  | false =>
    go_wp2_with fail
    go_ret
    exact ⟨rfl, Only.refl _ _⟩
  | true =>
    have HAL := hid_of (hbb rfl)
    clear hbb cB
    by_cases h1 : (524288 : Int) < (T.length : Int)
    · go_wp2_with fail
      go_ret
      exact ⟨rfl, Only.refl _ _⟩
    · by_cases h2 : (65536 : Int) < (what.length : Int)
      · go_wp2_with fail
        go_ret
        exact ⟨rfl, Only.refl _ _⟩
      · by_cases h3 : (4096 : Int) < (n : Int)
        · go_wp2_with fail
          go_ret
          exact ⟨rfl, Only.refl _ _⟩
        · have hT2 : T.length ≤ 524288 := by omega
          have hW2 : what.length ≤ 65536 := by omega
          have hn4 : n ≤ 4096 := by omega
          go_upto_block 0 with fail
          go_cut [7, 8] from 31 to 45 (fun v7 v8 wr' => wr' = w0 ∧ Hid (hdr.flatten.length ≤ 262144))
          case first =>
            go_wp2_with fail
            go_loopg [7, 8] (n + 1) (fun f v7 v8 wr => ∃ (i z : Nat), v7 = .int .i64 (z : Int) ∧ z ≤ 262144 ∧ v8 = .int .i64 (i : Int) ∧ i ≤ n ∧ n < f + i ∧ wr = w0 ∧ Hid ((hdr.take i).flatten.length = z))
            case atStart => exact ⟨0, 0, rfl, by omega, rfl, by omega, by omega, rfl, by show _ = _; simp⟩
            case round =>
              obtain ⟨i, z, rfl, hz, rfl, hi, hif, hw, htot⟩ := hrel
              subst hw
              obtain ⟨f, rfl⟩ : ∃ f, gk = f + 1 := ⟨gk - 1, by omega⟩
              by_cases hlt : i < n
              · obtain ⟨b, o, rfl, hst⟩ := hAc.resolve_left (by omega)
                have hi1 : i < hdr.length := by rw [HN.out]; exact hlt
                have hci := hst i hi1
                have hxl := HAL.out _ (List.getElem_mem hi1)
                obtain ⟨x, hxi⟩ : ∃ x, hdr[i] = x := ⟨_, rfl⟩
                have HTK : Hid ((hdr.take (i + 1)).flatten.length = z + x.length) := by
                  show _ = _
                  have e : hdr.take (i + 1) = hdr.take i ++ [x] := by rw [List.take_add_one, List.getElem?_eq_getElem hi1, hxi]; rfl
                  rw [e, List.flatten_append, List.length_append, htot.out]
                  simp
                rw [hxi] at hci hxl
                clear hxi hst htot
                by_cases h7 : (262144 : Int) < (z : Int) + (x.length : Int)
                · go_wp2_with fail
                  go_ret
                  exact ⟨rfl, Only.refl _ _⟩
                · go_wp2_with fail
                  go_roundg f
                  case measure => omega
                  case rel => exact ⟨i + 1, z + x.length, rfl, by omega, rfl, by omega, by omega, rfl, HTK⟩
              · obtain rfl : i = n := by omega
                have HFL : Hid (hdr.flatten.length ≤ 262144) := by
                  have h := htot.out
                  have h1 := HN.out
                  rw [List.take_of_length_le (by omega)] at h
                  show _ ≤ _
                  omega
                clear htot
                go_wp2_with fail
                go_meet
                exact ⟨rfl, HFL⟩
          case rest =>
          obtain ⟨hw, hfl⟩ := hcut
          have hw' := hw.symm
          subst hw'
          clear hw
          go_upto_block 2 with fail
          go_cut [9] from 46 to 55 (fun v9 wr' => wr' = w0 ∧ Hid (34 ∉ T))
          case first =>
            go_wp2_with fail
            go_loopg [9] (T.length + 1) (fun f v9 wr2 => ∃ i : Nat, v9 = .int .i64 (i : Int) ∧ i ≤ T.length ∧ T.length < f + i ∧ wr2 = w0 ∧ Hid (34 ∉ T.take i))
            case atStart => exact ⟨0, rfl, by omega, by omega, rfl, by show _ ∉ _; simp⟩
            case round =>
              obtain ⟨i, rfl, hi, hif, hw, h34⟩ := hrel
              subst hw
              obtain ⟨f, rfl⟩ : ∃ f, gk = f + 1 := ⟨gk - 1, by omega⟩
              by_cases hlt : i < T.length
              · by_cases hq : T[i] = 34
                · have hq' : ((T[i].toNat : Int)) = 34 := by rw [hq]; rfl
                  clear hq
                  go_wp2_with fail
                  go_ret
                  exact ⟨rfl, Only.refl _ _⟩
                · have hq' : ¬ ((T[i].toNat : Int)) = 34 := fun h => hq ((toNat_eq (n := 34) (by omega)).1 h)
                  have hq2 : ((T[i].toNat : Int) == 34) = false := by simpa using hq'
                  have HQ : Hid (34 ∉ T.take (i + 1)) := by
                    show _ ∉ _
                    have e : T.take (i + 1) = T.take i ++ [T[i]] := by rw [List.take_add_one, List.getElem?_eq_getElem hlt]; rfl
                    rw [e]
                    intro h
                    rcases List.mem_append.1 h with h | h
                    · exact h34.out h
                    · simp at h; exact hq h.symm
                  clear h34 hq
                  go_wp2_with fail
                  go_roundg f
                  case measure => omega
                  case rel => exact ⟨i + 1, rfl, by omega, by omega, rfl, HQ⟩
              · obtain rfl : i = T.length := by omega
                have HQ : Hid (34 ∉ T) := by
                  have h := h34.out
                  rw [List.take_length] at h
                  exact h
                go_wp2_with fail
                go_meet
                exact ⟨rfl, HQ⟩
          case rest =>
          obtain ⟨hw, h34⟩ := hcut
          have hw' := hw.symm
          subst hw'
          clear hw hAc
          go_upto_region 21 with fail
          go_cut [2] from 56 to 57 (fun v2 wr' => ∃ p n cap, v2 = .slice p n cap ∧ Hid (Hdr wr' wr'.heap.size (.slice p n cap) hdr) ∧ Hid (Only (fun _ => False) w0 wr'))
          case first =>
            rcases HA.out with ⟨h1, h2⟩ | ⟨b, o, sp, cap', h1, h2, h3, h4, h5, h6⟩
            · simp only [Value.slice.injEq] at h1
              obtain ⟨rfl, rfl, rfl⟩ := h1
              have cc := clone_nil_calls w0
              have HX : Hid (Hdr w0 w0.heap.size (.slice none 0 0) hdr) := .inl ⟨rfl, h2⟩
              clear h2 HA
              go_wp2_with (go_at_call 8; go_fit cc; rintro e w1 ⟨rfl, rfl⟩)
              go_meet
              exact ⟨_, _, _, rfl, HX, Only.refl _ _⟩
            · simp only [Value.slice.injEq] at h1
              obtain ⟨rfl, hn', rfl⟩ := h1
              have cc := clone_calls b o sp n cap hdr w0 HN.out (by omega) (by rw [hn']; exact h2) h3
              clear h2 h3 h4 h5 h6 hn' HA
              go_wp2_with (go_at_call 8; go_fit cc; rintro e w1 ⟨rfl, hs1, ho1, hz1⟩)
              go_meet
              exact ⟨_, _, _, rfl, .inr ⟨w0.heap.size, n, by rw [HN.out], hs1.strs, by rw [hz1]; omega, by rw [HN.out]; exact Nat.le_refl _⟩, ho1⟩
          case rest =>
          obtain ⟨p2, m2, cap2, rfl, hH, hO⟩ := hcut
          clear HA
          have cM := model_calls T (.slice p2 m2 cap2) hdr wc (by omega) hH.out (by rw [HN.out]; omega)
          have hlenM := md_len hdr (T.length + 2) (mk0 T) (T.drop (mk0 T)) 0 false
          unfold ModP at cM
          rw [first_rows T hdr h34.out] at cM hlenM
          obtain ⟨R0, hR0⟩ : ∃ R0, hres hdr nxt (nxt (mk0 T, false) (T.drop (mk0 T)) 0) = R0 := ⟨_, rfl⟩
          rw [hR0] at cM
          obtain ⟨RES, hRES⟩ : ∃ RES, rowsR R0 = RES := ⟨_, rfl⟩
          rw [hR0, hRES] at hlenM
          rw [hRES] at cM
          have HR0 := hid_of hR0
          have HRES := hid_of hRES
          clear hR0 hRES
          go_upto_region 23 with (go_at_call 9; go_fit cM; rintro e w2 ⟨q1, n1, c1, q2, n2, c2, rfl, hmod, ho2⟩)
          obtain ⟨g, hg⟩ : ∃ g, w2.heap.size = g := ⟨_, rfl⟩
          have cN := new_calls g T (str what) p2 m2 cap2 w2 hg (by omega)
          have hO2 : Only (fun _ => False) w0 w2 := hO.out.trans ho2 (fun _ _ h => h)
          have HMOD := hid_of hmod
          have HO2 := hid_of hO2
          have HHD2 : Hid (Hdr w2 g (.slice p2 m2 cap2) hdr) := by
            show Hdr _ _ _ _
            rcases hH.out.only ho2 (fun _ _ h => h) with h | ⟨b, cap, h1, h2, h3, h4⟩
            · exact .inl h
            · exact .inr ⟨b, cap, h1, h2, by have := ho2.size; omega, h4⟩
          have HS2 : Hid (Sent g bE bF w2) := sent_up (HS.out.only hO2 (fun _ _ h => h)) (by have := hO2.size; omega)
          have HG := hid_of hg
          clear hmod ho2 hO2 hH hO HS cM hg
          go_upto_region 24 with (go_at_call 10; go_fit cN; rintro e w3 ⟨rfl, hmade, ho3, hz3⟩)
          have hNX : NextR F g bE bF (.string (str what)) (.slice p2 m2 cap2) cv0 R0 w3 := by
            have := next_first F g bE bF T (str what) (.slice p2 m2 cap2) hdr w3 (by rw [ho3.tape, HO2.out.tape]; exact HF.out) (HS2.out.only ho3 (fun _ _ h => h)) hmade (by omega) (HHD2.out.only ho3 (fun _ _ h => h)) (by rw [str_size]; omega) (by rw [HN.out]; omega) (by have := hfl.out; omega) h34.out (by omega)
            rw [HR0.out] at this
            exact this
          have HNX := hid_of hNX
          have HO3 := hid_of ho3
          clear hNX hmade ho3 cN hz3
          obtain ⟨vs, hvs, hvr⟩ := HMOD.out.rows
          have hn1 := own_len hvs
          subst hn1
          have HVS := hid_of hvs
          have HVR := hid_of hvr
          have HLN := hid_of HMOD.out.lines
          clear hvs hvr HMOD
          obtain ⟨L, hL⟩ : ∃ L, RES.length = L := ⟨_, rfl⟩
          rw [hL] at hlenM HVS HLN ⊢
          have HL := hid_of hL
          clear hL
          go_upto_region 25 with fail
          go_loopg [13, 14, 15, 16] (L + 2) (fun f v13 v14 v15 v16 wr => ∃ i : Nat, v13 = .int .i64 (i : Int) ∧ i ≤ L + 1 ∧ L + 1 < f + i ∧ Hid (Only (fun _ => False) w2 wr) ∧ Hid (i ≤ L → ∃ c R, NextR F g bE bF (.string (str what)) (.slice p2 m2 cap2) c R wr ∧ rowsR R = RES.drop i))
          case atStart => exact ⟨0, rfl, by omega, by omega, HO3, fun _ => ⟨cv0, R0, HNX.out, HRES.out⟩⟩
          case round =>
            obtain ⟨i, rfl, hi, hif, hoR, hnx⟩ := hrel
            obtain ⟨f, rfl⟩ : ∃ f, gk = f + 1 := ⟨gk - 1, by omega⟩
            by_cases hlt : i ≤ L
            · obtain ⟨c, R, hN, hRr⟩ := hnx.out hlt
              have cR := hN.1
              have HNge := hid_of hN.2.1
              have HNgood := hid_of hN.2.2
              have HRr := hid_of hRr
              clear hN hRr hnx
              have cR' : Calls Tryf.prog 11 #[.pointer (some ⟨g + 5, 0, none⟩)] wr fun e w' => ∃ q m qc ln E, e = .returned (.tuple #[.slice q m qc, .int .i64 ln, E]) ∧ Hid (RDP g bE (.string (str what)) (.slice p2 m2 cap2) c R wr e w') := by
                refine cR.mono ?_
                rintro e w' h
                have h' := h
                rcases h with ⟨-, t, v, he, -⟩ | ⟨flds, ln, s, rest, c, b, cap, -, he, -⟩
                · exact ⟨_, _, _, _, _, he, h'⟩
                · exact ⟨_, _, _, _, _, he, h'⟩
              clear cR
              go_upto_region 28 with (go_at_call 11; go_fit cR'; rintro e w4 ⟨q, m, qc, ln, E, rfl, hrd⟩)
              rcases hrd.out with ⟨hR, t, v, he, ho4⟩ | ⟨flds, ln', s, rest, c', b, fc, hR, he, hst, hnl, ho4, hin, hown⟩
              · have heq : q = none ∧ m = 0 ∧ qc = 0 ∧ ln = 0 ∧ E = .iface t v := by
                  simp only [Ending.returned.injEq, Value.tuple.injEq] at he
                  have := congrArg Array.toList he
                  simp at this
                  exact ⟨this.1.1, this.1.2.1, this.1.2.2, this.2.1, this.2.2⟩
                obtain ⟨rfl, rfl, rfl, rfl, rfl⟩ := heq
                have hiL : i = L := by
                  have h1 := HRr.out
                  rw [hR] at h1
                  have h2 := congrArg List.length h1
                  rw [List.length_drop, HL.out] at h2
                  simp [rowsR] at h2
                  omega
                have HO4 : Hid (Only (fun _ => False) w2 w4) := hoR.out.trans ho4 (fun k hk h => by have := HNge.out k h; have := HG.out; omega)
                clear hrd hR he ho4
                subst hiL
                go_wp2_with fail
                go_roundg f
                case measure => omega
                case rel => exact ⟨i + 1, rfl, by omega, by omega, HO4, fun h => by omega⟩
              · have heq : q = some ⟨b, 0, none⟩ ∧ m = flds.length ∧ qc = fc ∧ ln = (ln' : Int) ∧ E = .nilIface := by
                  simp only [Ending.returned.injEq, Value.tuple.injEq] at he
                  have := congrArg Array.toList he
                  simp at this
                  exact ⟨this.1.1, this.1.2.1, this.1.2.2, this.2.1, this.2.2⟩
                obtain ⟨rfl, hm, rfl, rfl, rfl⟩ := heq
                clear he
                have hdr1 := HRr.out
                rw [hR] at hdr1
                have hgood := HNgood.out
                rw [hR] at hgood
                have hiL : i < L := by
                  have h2 := congrArg List.length hdr1
                  rw [List.length_drop, HL.out] at h2
                  simp [rowsR] at h2
                  omega
                have hi2 : i < RES.length := by rw [HL.out]; exact hiL
                rw [List.drop_eq_getElem_cons hi2] at hdr1
                simp only [rowsR, List.cons.injEq] at hdr1
                obtain ⟨hel, hrs⟩ := hdr1
                have hO4 : Only (fun _ => False) w2 w4 := hoR.out.trans ho4 (fun k hk h => by have := HNge.out k h; have := HG.out; omega)
                have hge' : ∀ k, ownT g c' k → g ≤ k := fun k hk => by
                  rcases hin k hk with h | h
                  · exact HNge.out k h
                  · have := hoR.out.size; have := HG.out; omega
                have hvs4 := ownsRow_only HVS.out hO4 (fun _ _ h => h)
                have hln4 := ownsRow_only HLN.out hO4 (fun _ _ h => h)
                obtain rfl : n2 = L := own_len hln4
                obtain ⟨rb, rc, hrb, -, -⟩ := hvs4.form (by omega)
                obtain ⟨lb, lc, hlb, -, -⟩ := hln4.form (by omega)
                simp only [Value.slice.injEq] at hrb hlb
                obtain ⟨rfl, -, rfl⟩ := hrb
                obtain ⟨rfl, -, rfl⟩ := hlb
                obtain ⟨vi, hvi, rb2, rc2, hrv, hro⟩ := HVR.out i hi2
                have hcv := hvs4.cellAt i (by omega)
                rw [hvi, hrv] at hcv
                have hcl := hln4.cellAt i (by omega)
                rw [List.getElem?_map, List.getElem?_eq_getElem hi2, ← hel] at hcl
                simp only [Option.map_some] at hcl
                rw [← hel] at hcv hro
                simp only [] at hcv hro
                have hro4 := ownsRow_only hro hO4 (fun _ _ h => h)
                have strs_of : ∀ {base b cap : Nat} {W : World}, W.ownsRow base 9 1 (.slice (some ⟨b, 0, none⟩) flds.length cap) flds.length (strC flds) → Strs W b 0 flds := fun h i hi => by
                  have h1 := h.cellAt i (by omega)
                  rw [strC_get flds i hi] at h1
                  rw [Nat.zero_add]
                  exact h1
                have hfb : flds.length ≤ 9223372036854775807 := by
                  rcases hown.2 with ⟨h1, h2⟩ | ⟨b', cap', cur, h1, h2, h3, h4, h5, -⟩
                  · omega
                  · unfold maxLen at h5; omega
                have cE := same_calls (some ⟨b, 0, none⟩) flds.length qc (some ⟨rb2, 0, none⟩) flds.length rc2 flds flds w4 rfl rfl hfb hfb (.inr ⟨b, rfl, strs_of hown⟩) (.inr ⟨rb2, rfl, strs_of hro4⟩)
                rw [← hm] at cE hcv
                have HO4 := hid_of hO4
                have HNX2 : Hid (∀ W, Quiet w4 W → ∃ c R, NextR F g bE bF (.string (str what)) (.slice p2 m2 cap2) c R W ∧ rowsR R = RES.drop (i + 1)) := by
                  intro W hq
                  have h0 : Only (fun _ => False) w4 W := hq.only _
                  refine ⟨c', nxt s rest ln', next_more F g bE bF _ _ c' s rest ln' W ?_ ?_ ?_ hnl hge' hgood.1 hgood.2, by rw [rowsR_nxt]; exact hrs⟩
                  · rw [h0.tape, hO4.tape, HO2.out.tape]; exact HF.out
                  · exact (HS2.out.only hO4 (fun _ _ h => h)).only h0 (fun _ _ h => h)
                  · obtain ⟨r, h1⟩ := hst.src
                    obtain ⟨b1, b2, b3, h2⟩ := hst.rows
                    exact ⟨h0.sat hst.tab (fun h => h), ⟨r, h1.only h0 (fun _ _ h => h)⟩, ⟨b1, b2, b3, h2.only h0 (fun _ _ h => h)⟩⟩
                have hiI2 : (i : Int) < (n2 : Int) := by omega
                clear hrd hR hst ho4 hin hown hel hrs hi2 hge' hvs4 hln4 hvi hrv hro hro4 strs_of hgood hO4 hnl hm
                go_wp2_with (go_at_call 12; go_fit cE; rintro e w5 ⟨⟨bb, rfl, hbb⟩, hq5⟩; obtain rfl := hbb.2 rfl)
                go_roundg f
                case measure => omega
                case rel => exact ⟨i + 1, rfl, by omega, by omega, HO4.out.quiet hq5, fun _ => HNX2.out w5 hq5⟩
            · obtain rfl : i = L + 1 := by omega
              have HO := hid_of (HO2.out.trans hoR.out (fun _ _ h => h))
              go_wp2_with fail
              go_ret
              exact ⟨rfl, HO.out⟩
end Go.Proofs.Qxb6614395aFmt
