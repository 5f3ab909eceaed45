import Derived.Test.Qxb6614395aFmtW23
import Derived.Test.Qxb6614395aFmtW25
import Derived.Test.Qxb6614395aFmtW26
import Derived.Test.Qxb6614395aFmtW27
import Derived.Test.Qxb6614395aFmtW30
import Derived.Test.Qxb6614395aFmtL5
import Derived.Stop.Asserts
set_option linter.unusedSimpArgs false
set_option linter.unusedVariables false
namespace Go.Proofs.Qxb6614395aFmt
open Go Go.RowKit Go.Deep Go.Extern.Stop Go.Stop Go.Extern
attribute [local go_sem] str_size str_get str_extract str_toList str_append

/-- An error that csv gives. -/
def ErrV (g : Nat) (bE : Addr) (E : Value) (w : World) : Prop := ∃ t v, E = .iface t v ∧ (t = 99 → E = tripA bE ∨ ∃ N, E = tripE N ∧ g + 6 ≤ N ∧ IsC N w)
/-- What csv's Read gives, for a result R. -/
def CR (g : Nat) (c0 : CV) (bE : Addr) (R : RRes) (w : World) (e : Ending) (w' : World) : Prop :=
  (R = .err ∧ ∃ p n cap E, e = .returned (.tuple #[.slice p n cap, E]) ∧ ErrV g bE E w' ∧ Only (ownR g c0) w w') ∨
  (∃ flds nl s rest r c bytes ixs ps b cap, R = .ok flds nl s rest ∧ e = .returned (.tuple #[.slice (some ⟨b, 0, none⟩) flds.length cap, .nilIface]) ∧ Src g (tripA bE) s rest r w' ∧ Rows5 g c bytes ixs ps w' ∧ From g c0 c w w' ∧ c.nl = nl ∧
    w'.ownsRow (g + 6) 9 1 (.slice (some ⟨b, 0, none⟩) flds.length cap) flds.length (strC flds) ∧ (∃ col t, ps = .int .i64 nl :: .int .i64 col :: t))
/-- csv's Read gives R, wherever the text to come is rest. -/
def CsvReads (F : Interp) (g : Nat) (bE bF : Addr) (s : Nat × Bool) (rest : List UInt8) (nl : Nat) (R : RRes) : Prop :=
  ∀ (c0 : CV) (bytes : List UInt8) (ixs ps : List Value) (r : Nat) (w : World), c0.nl = nl → F.answers w.tape → Sent g bE bF w → Src g (tripA bE) s rest r w → Rows5 g c0 bytes ixs ps w →
    Calls Tryf.prog 28 #[.pointer (some ⟨g + 4, 0, none⟩)] w (CR g c0 bE R w)
theorem csv_reads (F : Interp) (g : Nat) (bE bF : Addr) (s : Nat × Bool) (rest : List UInt8) (nl : Nat) (h34 : 34 ∉ rest) (hn : nl + rest.length ≤ 1000000) : CsvReads F g bE bF s rest nl (nxt s rest nl) := by
  intro c0 bytes ixs ps r w hc hF hS hsrc hrows
  subst hc
  refine (cr_calls F g c0 bE bF s rest r bytes ixs ps w hF hS hn h34 hsrc hrows (rest.length + 1) (by omega)).mono ?_
  rintro e w' (⟨h1, p, n, cap, E, h2, h3, h4⟩ | ⟨flds, nl, s', rest', r', c, by', ix, ps', b, cap, h1, h2, h3, h4, h5, h6, h7, h8, h9, h10, h11⟩)
  · refine .inl ⟨h1, p, n, cap, E, h2, ?_, h4⟩
    rcases h3 with h | ⟨N, h, hN⟩
    · exact ⟨_, _, h, fun _ => .inl h⟩
    · exact ⟨_, _, h, fun _ => .inr ⟨N, h, hN⟩⟩
  · exact .inr ⟨flds, nl, s', rest', r', c, by', ix, ps', b, cap, h1, h2, h3, h4, h5, h7, h10, h11⟩

/-- All blocks of a reader of tables. -/
def ownT (g : Nat) (c : CV) (k : Nat) : Prop := ownR g c k ∨ k = g + 5
/-- A reader of tables whose header has been read. -/
structure RdSt (g : Nat) (bE : Addr) (what hd : Value) (c : CV) (s : Nat × Bool) (rest : List UInt8) (w : World) : Prop where
  tab : SAt (g + 5) 59 (tabC g what hd true) w
  src : ∃ r, Src g (tripA bE) s rest r w
  rows : ∃ bytes ixs ps, Rows5 g c bytes ixs ps w
/-- What the header's reading leaves. -/
def HdP (g : Nat) (bE : Addr) (what hd : Value) (hdr : List (List UInt8)) (R : RRes) (w : World) (e : Ending) (w' : World) : Prop :=
  ((∃ t v, e = .returned (.iface t v)) ∧ Only (ownT g cv0) w w' ∧ ∀ flds ln s rest, R = .ok flds ln s rest → flds ≠ hdr) ∨
  (∃ ln s rest c, R = .ok hdr ln s rest ∧ e = .returned .nilIface ∧ RdSt g bE what hd c s rest w' ∧ c.nl = ln ∧ Only (ownT g cv0) w w' ∧ ∀ k, ownT g c k → ownT g cv0 k ∨ w.heap.size ≤ k)
theorem From.in_own {g : Nat} {c0 c : CV} {w0 w : World} (h : From g c0 c w0 w) : ∀ k, ownT g c k → ownT g c0 k ∨ w0.heap.size ≤ k := by
  rintro k ((h' | h' | h' | h' | h' | h' | h') | h')
  · exact .inl (.inl (.inl h'))
  · exact .inl (.inl (.inr (.inl h')))
  · exact (h.in_raw k h').imp .inl id
  · exact (h.in_rbuf k h').imp .inl id
  · exact (h.in_idx k h').imp .inl id
  · exact (h.in_pos k h').imp .inl id
  · exact (h.in_last k h').imp .inl id
  · exact .inl (.inr h')

theorem rows0 {g : Nat} {w : World} (hc : SAt (g + 4) 76 (csvC g cv0) w) (hz : g + 6 ≤ w.heap.size) : Rows5 g cv0 [] [] [] w :=
  ⟨hc, ⟨0, [], World.ownsRow_nil _ _ _ _⟩, World.ownsRow_nil _ _ _ _, World.ownsRow_nil _ _ _ _, ⟨0, World.ownsRow_nil _ _ _ _⟩, ⟨0, [], World.ownsRow_nil _ _ _ _⟩, (fun k hk => by cases hk), hz⟩
theorem eql_types (w : World) (t : TypeId) (v : Value) (a : Addr) (h : t ≠ 99) : (binOp .eql 32 (.iface t v) (.iface 99 (.pointer (some a)))).run Tryf.prog w = .ok (.bool false) w :=
  run_eql_iface_types (P := Tryf.prog) t 99 v _ Tryf.underlying32 h w
theorem ownR0 {g k : Nat} (h : ownR g cv0 k) : own g k ∨ k = g + 4 := by
  rcases h with h | h | h | h | h | h | h
  · exact .inl h
  · exact .inr h
  all_goals cases h

set_option maxHeartbeats 3200000 in
set_option maxRecDepth 20000 in
theorem hdr_calls (F : Interp) (g : Nat) (bE bF : Addr) (T : List UInt8) (what : ByteArray) (hd : Value) (hdr : List (List UInt8)) (R : RRes) (w : World) (hF : F.answers w.tape) (hS : Sent g bE bF w) (hm : Made g T (.string what) hd w) (hz : g + 6 ≤ w.heap.size)
    (hh : Hdr w g hd hdr) (hwh : what.size ≤ 1000000) (hn : hdr.length ≤ 1000000) (hl : hdr.flatten.length ≤ 1000000)
    (hC : CsvReads F g bE bF (if T.take 3 = mark then (3, false) else (0, false)) (if T.take 3 = mark then T.drop 3 else T) 0 R) :
    Calls Tryf.prog 27 #[.pointer (some ⟨g + 5, 0, none⟩)] w (HdP g bE (.string what) hd hdr R w) := by
  obtain ⟨s, hs⟩ : ∃ s, (if T.take 3 = mark then ((3 : Nat), false) else (0, false)) = s := ⟨_, rfl⟩
  obtain ⟨rest, hrest⟩ : ∃ rest, (if T.take 3 = mark then T.drop 3 else T) = rest := ⟨_, rfl⟩
  rw [hs, hrest] at hC
  have cS : Calls Tryf.prog 35 #[.pointer (some ⟨g + 2, 0, none⟩)] w fun e w' => e = .returned .nilIface ∧ Only (own g) w w' ∧ ∃ r, Src g (tripA bE) s rest r w' := by
    have := skip_calls F g bE bF T w hF hS hz hm.buf hm.run
    unfold SkPost at this
    rw [hs, hrest] at this
    exact this
  obtain ⟨p, cap, n, hnl, rfl, hp⟩ : ∃ p cap n, hdr.length = n ∧ hd = .slice p n cap ∧ (n = 0 ∨ ∃ b, p = some ⟨b, 0, none⟩ ∧ Strs w b 0 hdr ∧ b < g) := by
    rcases hh with ⟨h1, h2⟩ | ⟨b, cap, h1, h2, h3, h4⟩
    · exact ⟨none, 0, 0, by rw [h2]; rfl, h1, .inl rfl⟩
    · exact ⟨_, cap, _, rfl, h1, .inr ⟨b, rfl, h2, h3⟩⟩
  have t0 := hm.tab.cell (i := 0) rfl
  have HM := hid_of hm
  have HF := hid_of hF
  have HS := hid_of hS
  have HH := hid_of hh
  have HC := hid_of hC
  have HL := hid_of hl
  have HN := hid_of hnl
  rw [hnl] at hn
  clear hm hF hS hh hC hs hrest hl hnl
  go_enter Tryf.func27, Tryf.ntmps27
  go_upto_region 4 with (go_at_call 35; go_fit cS; rintro e w1 ⟨rfl, ho1, r1, hsrc1⟩)
  have hm1 : SAt (g + 5) 59 (tabC g (.string what) (.slice p n cap) false) w1 := ho1.sat HM.out.tab (by unfold own; omega)
  have t3 := hm1.cell (i := 3) rfl
  have cJ := join_calls g (.slice p n cap) hdr w1 (HH.out.only ho1 (fun k hk h => by unfold own at h; omega)) (by have := ho1.size; omega) (by rw [HN.out]; exact hn) HL.out
  have HO1 := hid_of ho1
  have HSRC1 := hid_of hsrc1
  have HM1 := hid_of hm1
  clear ho1 hsrc1 hm1 cS
  go_upto_region 5 with (go_at_call 36; go_fit cJ; rintro e w2 ⟨⟨jn, rfl, hjn⟩, ho2⟩)
  have hm2 : SAt (g + 5) 59 (tabC g (.string what) (.slice p n cap) false) w2 := ho2.sat HM1.out (fun h => h)
  have t1 := hm2.cell (i := 1) rfl
  have HO2 : Hid (Only (own g) w w2) := HO1.out.trans ho2 (fun _ _ h => h.elim)
  have hsrc2 : Src g (tripA bE) s rest r1 w2 := HSRC1.out.only ho2 (fun _ _ h => h)
  have hrow2 : Rows5 g cv0 [] [] [] w2 := rows0 (HO2.out.sat HM.out.csv (by unfold own; omega)) (by have := HO2.out.size; omega)
  have hS2 : Sent g bE bF w2 := HS.out.only HO2.out (fun k hk h => by unfold own at h; omega)
  have hF2 : F.answers w2.tape := by rw [HO2.out.tape]; exact HF.out
  have cC := HC.out cv0 [] [] [] r1 w2 rfl hF2 hS2 hsrc2 hrow2
  have HM2 := hid_of hm2
  have HS2 := hid_of hS2
  clear ho2 hsrc2 hrow2 hS2 hF2 hm2 HSRC1 HM1 cJ HC
  have cC' : Calls Tryf.prog 28 #[.pointer (some ⟨g + 4, 0, none⟩)] w2 fun e w' => ∃ q m qc E, e = .returned (.tuple #[.slice q m qc, E]) ∧ Hid (CR g cv0 bE R w2 e w') := by
    refine cC.mono ?_
    rintro e w' h
    have h' := h
    rcases h with ⟨-, q, m, qc, E, he, -⟩ | ⟨flds, nl, s, rest, r, c, by', ix, ps, b, cap, -, he, -⟩
    · exact ⟨q, m, qc, E, he, h'⟩
    · exact ⟨_, _, _, _, he, h'⟩
  clear cC
  go_upto_region 6 with (go_at_call 28; go_fit cC'; rintro e w3 ⟨q, m, qc, E, rfl, hcr⟩)
  rcases hcr.out with ⟨hR, q', m', qc', E', he, hE, ho3⟩ | ⟨flds, nl, s', rest', r', c, by', ix, ps, b, fc, hR, he, hsrc3, hrow3, hfr3, hnl3, hown3, col, tl, hps⟩
  · have heE : E = E' := by
      simp only [Ending.returned.injEq, Value.tuple.injEq] at he
      have := congrArg Array.toList he
      simp at this
      exact this.2
    subst heE
    clear he
    have hS3 : Sent g bE bF w3 := HS2.out.only ho3 (fun k hk h => by rcases ownR0 h with h | h; (unfold own at h; omega); omega)
    have hE0 : w3.cell? ⟨0, 0, none⟩ = some (.iface 99 (.pointer (some bE))) := hS3.e
    have HOF : Hid (Only (ownT g cv0) w w3) := (HO2.out.mono (S' := ownT g cv0) (fun k _ h => .inl (.inl h))).trans ho3 (fun k _ h => .inl h)
    have HR : Hid (∀ flds ln s rest, R = .ok flds ln s rest → flds ≠ hdr) := fun flds ln s rest h => by rw [hR] at h; cases h
    have t2 : w3.cell? ⟨g + 5, 2, none⟩ = some (.string what) := (ho3.sat HM2.out (fun h => by rcases ownR0 h with h | h; (unfold own at h; omega); omega)).cell (i := 2) rfl
    obtain ⟨t, v, rfl, h99⟩ := hE
    by_cases ht : t = 99
    · subst ht
      rcases h99 rfl with h | ⟨N, h, hN, hNc⟩
      · simp only [tripE, tripA] at h
        simp only [Value.iface.injEq, true_and] at h
        subst h
        have hq := eql_same w3 bE
        clear hcr h99 ho3 hS3
        go_wp2_with (go_at_call 37; go_fit (errnew_calls _ w3); rintro e w4 ⟨rfl, s4, k4, hw4⟩)
        go_ret
        refine .inl ⟨⟨_, _, rfl⟩, ?_, HR.out⟩
        exact (HOF.out.alloc _).drewN _
      · simp only [tripE, tripA] at h
        simp only [Value.iface.injEq, true_and] at h
        subst h
        have hq := eql_other w3 ⟨N, 0, none⟩ bE (trip_ne hS3.eg (by omega)) hNc hS3.ce
        clear hcr h99 ho3 hS3 hNc
        go_wp2_with fail
        go_ret
        exact .inl ⟨⟨_, _, rfl⟩, HOF.out, HR.out⟩
    · have hq := eql_types w3 t v bE ht
      clear hcr h99 ho3 hS3
      go_wp2_with fail
      go_ret
      exact .inl ⟨⟨_, _, rfl⟩, HOF.out, HR.out⟩
  · have heq : q = some ⟨b, 0, none⟩ ∧ m = flds.length ∧ qc = fc ∧ E = .nilIface := by
      simp only [Ending.returned.injEq, Value.tuple.injEq] at he
      have := congrArg Array.toList he
      simp at this
      exact ⟨this.1.1, this.1.2.1, this.1.2.2, this.2⟩
    obtain ⟨rfl, hm, rfl, rfl⟩ := heq
    clear he
    have hS3 : Sent g bE bF w3 := HS2.out.only hfr3.only (fun k hk h => by rcases ownR0 h with h | h; (unfold own at h; omega); omega)
    have hE0 : w3.cell? ⟨0, 0, none⟩ = some (.iface 99 (.pointer (some bE))) := hS3.e
    have hO : Only (ownT g cv0) w w3 := (HO2.out.mono (S' := ownT g cv0) (fun k _ h => .inl (.inl h))).trans hfr3.only (fun k _ h => .inl h)
    have hm3 := hfr3.only.sat HM2.out (fun h => by rcases ownR0 h with h | h; (unfold own at h; omega); omega)
    have t3' := hm3.cell (i := 3) rfl
    have hst3 : Strs w3 b 0 flds := by
      intro i hi
      have := hown3.cellAt i (by omega)
      rw [strC_get flds i hi] at this
      rw [Nat.zero_add]
      exact this
    have hp3 : n = 0 ∨ ∃ b, p = some ⟨b, 0, none⟩ ∧ Strs w3 b 0 hdr := by
      rcases hp with h | ⟨hb, h1, h2, h3⟩
      · exact .inl h
      · exact .inr ⟨hb, h1, h2.only hO (fun h => by rcases h with h | h; (rcases ownR0 h with h | h; (unfold own at h; omega); omega); omega)⟩
    have hq := eql_nil w3 bE
    have HR := hid_of hR
    have HSR := hid_of hsrc3
    have HRW := hid_of hrow3
    have HFR := hid_of hfr3
    have HOF := hid_of hO
    have HM3 := hid_of hm3
    have HST := hid_of hst3
    have HP3 := hid_of hp3
    have HML := hid_of hm
    have HS3 := hid_of hS3
    have HNL := hid_of hnl3
    clear hR hsrc3 hrow3 hfr3 hO hm3 hst3 hp3 hm hcr hS3 hnl3 hown3
    go_upto_region 12 with fail
    go_loopg [7, 8] (n + 1) (fun f v7 v8 wr => ∃ (i : Nat) (wrong : Bool), v7 = .bool wrong ∧ v8 = .int .i64 (i : Int) ∧ i ≤ n ∧ n < f + i ∧ Hid (Quiet w3 wr) ∧ Hid ((wrong = true → flds ≠ hdr) ∧ (wrong = false → flds.length = hdr.length ∧ flds.take i = hdr.take i)))
    case atStart =>
      refine ⟨0, ((m : Int) != (n : Int)), rfl, rfl, by omega, by omega, Quiet.refl _, ?_, ?_⟩
      · intro h hfh
        have h1 := HML.out
        have h2 := HN.out
        rw [hfh, h2] at h1
        rw [h1] at h
        simp at h
      · intro h
        simp at h
        have h1 := HML.out
        have h2 := HN.out
        exact ⟨by omega, by simp⟩
    case round =>
      obtain ⟨i, wrong, rfl, rfl, hi, hif, hqu, hwr⟩ := hrel
      obtain ⟨f, rfl⟩ : ∃ f, gk = f + 1 := ⟨gk - 1, by omega⟩
      have hm3 := hqu.out.sat HM3.out
      have t3r := hm3.cell (i := 3) rfl
      cases wrong with
      | true =>
        have t1r := hm3.cell (i := 1) rfl
        subst hps
        have hro : Rows5 g c by' ix (.int .i64 nl :: .int .i64 col :: tl) wr := HRW.out.only (hqu.out.only (fun _ => False)) (fun _ _ h => h)
        obtain ⟨col', hcol⟩ : ∃ col' : Int, col = col' := ⟨_, rfl⟩
        have cFP := fp_calls g c by' ix tl nl col wr hro
        have HRO : Hid (Only (ownT g cv0) w wr) := HOF.out.quiet hqu.out
        have HF3 : Hid (F.answers wr.tape) := by
          show F.answers _
          rw [HRO.out.tape]; exact HF.out
        have HSR3 : Hid (Strs wr b 0 flds) := hqu.out.strs HST.out
        have HNE := hid_of (hwr.out.1 rfl)
        have HR' : Hid (∀ f ln s rest, R = .ok f ln s rest → f ≠ hdr) := fun f' ln s rest h => by
          rw [HR.out] at h
          simp only [RRes.ok.injEq] at h
          rw [← h.1]
          exact HNE.out
        clear hro hwr HRW HSR HFR hm3
        go_upto_region 17 with (go_at_call 29; go_fit cFP; rintro e w4 ⟨rfl, hq4⟩)
        have hE := fun o1 hh0 hh1 hh2 => errorf3_calls F nl jn ⟨b, 0, none⟩ m qc (flds.map str) w4.heap.size (w4.alloc o1) (by
          show F.answers _
          rw [World.tape_alloc]
          obtain ⟨k, rfl⟩ := hq4
          exact HF3.out) (by rw [List.length_map]; exact HML.out.symm) (fun j v hv => by
            rw [List.map_map, List.getElem?_map] at hv
            obtain ⟨y, hy, rfl⟩ := Option.map_eq_some_iff.1 hv
            obtain ⟨hj, rfl⟩ := List.getElem?_eq_some_iff.1 hy
            have h1 := ((hq4.strs HSR3.out).only (((Only.refl (fun _ => False) w4).alloc o1)) (fun h => h)) j hj
            have ea : (⟨b, 0, none⟩ : Addr).add j = ⟨b, 0 + j, none⟩ := by unfold Addr.add; split <;> simp_all
            rw [ea]
            exact h1) hh0 hh1 hh2
        go_wp2_with (first | (go_at_call 31; go_fit (hE _ (by simp [go_sem]) (by simp [go_sem]) (by simp [go_sem])); rintro e w5 ⟨rfl, sx, kx, hw5⟩))
        go_ret
        refine .inl ⟨⟨_, _, rfl⟩, ?_, HR'.out⟩
        exact (((HRO.out.quiet hq4).alloc _).alloc _).drewN _
      | false =>
        have hlen := (hwr.out.2 rfl).1
        by_cases hlt : i < n
        · obtain ⟨hb, rfl, hsh⟩ := HP3.out.resolve_left (by omega)
          have hL1 := HN.out
          have hL2 := HML.out
          have hi1 : i < flds.length := by omega
          have hi2 : i < hdr.length := by omega
          have h1 := hqu.out.strs HST.out i hi1
          have h2 := hqu.out.strs hsh i hi2
          rw [Nat.zero_add] at h1 h2
          have him : (i : Int) < (m : Int) := by omega
          have htk := (hwr.out.2 rfl).2
          have HE : Hid (flds.take (i + 1) = hdr.take (i + 1) ↔ flds[i] = hdr[i]) := by
            show _ ↔ _
            have t1 : flds.take (i + 1) = flds.take i ++ [flds[i]] := by rw [List.take_add_one, List.getElem?_eq_getElem hi1]; rfl
            have t2 : hdr.take (i + 1) = hdr.take i ++ [hdr[i]] := by rw [List.take_add_one, List.getElem?_eq_getElem hi2]; rfl
            rw [t1, t2, htk, List.append_cancel_left_eq, List.cons.injEq]
            simp
          have HNX : Hid (flds = hdr → flds[i] = hdr[i]) := fun h => by subst h; rfl
          obtain ⟨x, hxi⟩ : ∃ x, flds[i] = x := ⟨_, rfl⟩
          obtain ⟨y, hyi⟩ : ∃ y, hdr[i] = y := ⟨_, rfl⟩
          rw [hxi] at h1 HE HNX
          rw [hyi] at h2 HE HNX
          have HLE := hid_of hlen
          clear hxi hyi hwr hsh htk hL1 hL2 hlen hi1 hi2 hm3
          by_cases hxy : x = y
          · have HX := hid_of hxy
            have e2 : (x == y) = true := by rw [hxy]; simp
            go_wp2_with fail
            go_quiet (fail)
            go_wp2_with fail
            go_roundg f
            case measure => omega
            case rel =>
              refine ⟨i + 1, false, ?_, rfl, by omega, by omega, hqu.out.drewN _, by simp, fun _ => ⟨HLE.out, HE.out.2 HX.out⟩⟩
              simp [HX.out]
          · have HX := hid_of hxy
            have e0 : ¬ (str x = str y) := fun h => hxy (str_inj.1 h)
            have e2 : (x == y) = false := by rw [beq_eq_false_iff_ne]; exact hxy
            go_wp2_with fail
            go_quiet (fail)
            go_wp2_with fail
            go_roundg f
            case measure => omega
            case rel =>
              refine ⟨i + 1, true, ?_, rfl, by omega, by omega, hqu.out.drewN _, fun _ h => HX.out (HNX.out h), by simp⟩
              simp [e0]
        · obtain rfl : i = n := by omega
          have f4 := hm3.frozen 4
          have t4 := hm3.cell (i := 4) rfl
          have HE : Hid (flds = hdr) := by
            have h := (hwr.out.2 rfl).2
            have h1 := HN.out
            rwa [List.take_of_length_le (by omega), List.take_of_length_le (by omega)] at h
          clear hwr hlen
          go_wp2_with fail
          go_ret
          subst hps
          have h5 : Only (fun k => k = g + 5) wr (wr.setCell ⟨g + 5, 4, none⟩ (.bool true)) := (Only.refl (fun k => k = g + 5) _).setCell (.inl rfl) _
          have hq0 : Only (fun _ => False) w3 wr := hqu.out.only _
          refine .inr ⟨nl, s', rest', c, by rw [HR.out, HE.out], rfl, ⟨hm3.set' 4 _ (by simp [tabC]), ⟨r', ?_⟩, ⟨by', ix, (.int .i64 nl :: .int .i64 col :: tl), ?_⟩⟩, HNL.out, ?_, ?_⟩
          · exact (HSR.out.only hq0 (fun _ _ h => h)).only h5 (fun k hk h => by unfold own at hk; omega)
          · exact (HRW.out.only hq0 (fun _ _ h => h)).only h5 (fun k hk h => by
              subst h
              have h0 := HRW.out
              obtain ⟨n1, x1, h1⟩ := h0.raw
              obtain ⟨n2, h2⟩ := h0.pos
              obtain ⟨n3, x3, h3⟩ := h0.last
              rcases hk with h | h | h | h | h | h
              · omega
              · have := (h1.lt _ h).1; omega
              · have := (h0.rbuf.lt _ h).1; omega
              · have := (h0.idx.lt _ h).1; omega
              · have := (h2.lt _ h).1; omega
              · have := (h3.lt _ h).1; omega)
          · exact (HOF.out.quiet hqu.out).setCell (.inl (.inr rfl)) _
          · intro k hk
            rcases HFR.out.in_own k hk with h | h
            · exact .inl h
            · exact .inr (Nat.le_trans HO2.out.size h)
end Go.Proofs.Qxb6614395aFmt
