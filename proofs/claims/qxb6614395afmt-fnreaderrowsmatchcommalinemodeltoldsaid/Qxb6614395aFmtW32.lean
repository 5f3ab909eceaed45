import Derived.Test.Qxb6614395aFmtW31
set_option linter.unusedSimpArgs false
set_option linter.unusedVariables false
namespace Go.Proofs.Qxb6614395aFmt
open Go Go.RowKit Go.Deep Go.Extern.Stop Go.Stop Go.Extern
attribute [local go_sem] str_size str_get str_extract str_toList str_append

/-- What Reader.Read gives. -/
def RDP (g : Nat) (bE : Addr) (what hd : Value) (c0 : CV) (R : RRes) (w : World) (e : Ending) (w' : World) : Prop :=
  (R = .err ∧ ∃ t v, e = .returned (.tuple #[.slice none 0 0, .int .i64 0, .iface t v]) ∧ Only (ownT g c0) w w') ∨
  (∃ flds ln s rest c b cap, R = .ok flds ln s rest ∧ e = .returned (.tuple #[.slice (some ⟨b, 0, none⟩) flds.length cap, .int .i64 (ln : Int), .nilIface]) ∧ RdSt g bE what hd c s rest w' ∧ c.nl = ln ∧ Only (ownT g c0) w w' ∧ (∀ k, ownT g c k → ownT g c0 k ∨ w.heap.size ≤ k) ∧
    w'.ownsRow (g + 6) 9 1 (.slice (some ⟨b, 0, none⟩) flds.length cap) flds.length (strC flds))

set_option maxHeartbeats 1600000 in
set_option maxRecDepth 20000 in
theorem read_calls (F : Interp) (g : Nat) (bE bF : Addr) (what hd : Value) (c0 : CV) (s : Nat × Bool) (rest : List UInt8) (nl : Nat) (R : RRes) (w : World) (hF : F.answers w.tape) (hS : Sent g bE bF w) (hst : RdSt g bE what hd c0 s rest w) (hnl : c0.nl = nl) (hC : CsvReads F g bE bF s rest nl R) :
    Calls Tryf.prog 11 #[.pointer (some ⟨g + 5, 0, none⟩)] w (RDP g bE what hd c0 R w) := by
  obtain ⟨r, hsrc⟩ := hst.src
  obtain ⟨bytes, ixs, ps, hrow⟩ := hst.rows
  have cC := hC c0 bytes ixs ps r w hnl hF hS hsrc hrow
  have hge := hrow.ge
  have t1 := hst.tab.cell (i := 1) rfl
  have t4 := hst.tab.cell (i := 4) rfl
  have HGE : Hid (∀ k, ownR g c0 k → k ≠ g + 5) := by
    intro k hk h
    subst h
    obtain ⟨n1, x1, h1⟩ := hrow.raw
    obtain ⟨n2, h2⟩ := hrow.pos
    obtain ⟨n3, x3, h3⟩ := hrow.last
    rcases hk with h | h | h | h | h | h | h
    · unfold own at h; omega
    · omega
    · have := (h1.lt _ h).1; omega
    · have := (hrow.rbuf.lt _ h).1; omega
    · have := (hrow.idx.lt _ h).1; omega
    · have := (h2.lt _ h).1; omega
    · have := (h3.lt _ h).1; omega
  have HST := hid_of hst
  clear hst hrow hsrc hC hS hge
  have cC' : Calls Tryf.prog 28 #[.pointer (some ⟨g + 4, 0, none⟩)] w fun e w' => ∃ q m qc E, e = .returned (.tuple #[.slice q m qc, E]) ∧ Hid (CR g c0 bE R w e w') := by
    refine cC.mono ?_
    rintro e w' h
    have h' := h
    rcases h with ⟨-, q, m, qc, E, he, -⟩ | ⟨flds, nl, s, rest, r, c, by', ix, ps, b, cap, -, he, -⟩
    · exact ⟨q, m, qc, E, he, h'⟩
    · exact ⟨_, _, _, _, he, h'⟩
  clear cC
  go_enter Tryf.func11, Tryf.ntmps11
  go_upto_region 6 with (go_at_call 28; go_fit cC'; rintro e w3 ⟨q, m, qc, E, rfl, hcr⟩)
  rcases hcr.out with ⟨hR, q', m', qc', E', he, hE, ho3⟩ | ⟨flds, nl', s', rest', r', c, by', ix, ps, b, fc, hR, he, hsrc3, hrow3, hfr3, hnl3, hown3, col, tl, hps⟩
  · have heE : E = E' := by
      simp only [Ending.returned.injEq, Value.tuple.injEq] at he
      have := congrArg Array.toList he
      simp at this
      exact this.2
    subst heE
    clear he
    obtain ⟨t, v, rfl, -⟩ := hE
    have HO3 := hid_of ho3
    have HR := hid_of hR
    clear hcr ho3 hR
    go_wp2_with fail
    go_ret3
    exact .inl ⟨HR.out, t, v, rfl, HO3.out.mono (fun k _ h => .inl h)⟩
  · have heq : q = some ⟨b, 0, none⟩ ∧ m = flds.length ∧ qc = fc ∧ E = .nilIface := by
      simp only [Ending.returned.injEq, Value.tuple.injEq] at he
      have := congrArg Array.toList he
      simp at this
      exact ⟨this.1.1, this.1.2.1, this.1.2.2, this.2⟩
    obtain ⟨rfl, rfl, rfl, rfl⟩ := heq
    clear he
    subst hps
    have ht3 := hfr3.only.sat HST.out.tab (fun h => HGE.out _ h rfl)
    have t1' := ht3.cell (i := 1) rfl
    have cFP := fp_calls g c by' ix tl nl' col w3 hrow3
    have HR := hid_of hR
    have HSR := hid_of hsrc3
    have HRW := hid_of hrow3
    have HFR := hid_of hfr3
    have HT3 := hid_of ht3
    have HOW := hid_of hown3
    have HNL := hid_of hnl3
    obtain ⟨m, hm⟩ : ∃ m, flds.length = m := ⟨_, rfl⟩
    rw [hm] at HOW ⊢
    have HM := hid_of hm
    clear hR hsrc3 hrow3 hfr3 ht3 hown3 hnl3 hcr hm
    go_wp2_with (go_at_call 29; go_fit cFP; rintro e w4 ⟨rfl, hq4⟩)
    go_ret3
    have h0 : Only (fun _ => False) w3 w4 := hq4.only _
    refine .inr ⟨flds, nl', s', rest', c, b, qc, HR.out, by rw [HM.out]; rfl, ⟨h0.sat HT3.out (fun h => h), ⟨r', HSR.out.only h0 (fun _ _ h => h)⟩, ⟨_, _, _, HRW.out.only h0 (fun _ _ h => h)⟩⟩, HNL.out, (HFR.out.only.mono (fun k _ h => .inl h)).quiet hq4, HFR.out.in_own, ?_⟩
    rw [HM.out]
    exact ownsRow_only HOW.out h0 (fun _ _ h => h)

theorem rdp_lift {g : Nat} {bE : Addr} {what hd : Value} {c0 c : CV} {R : RRes} {w w1 : World} {e : Ending} {w' : World} (ho : Only (ownT g c0) w w1) (hin : ∀ k, ownT g c k → ownT g c0 k ∨ w.heap.size ≤ k) (h : RDP g bE what hd c R w1 e w') : RDP g bE what hd c0 R w e w' := by
  have key : ∀ k, k < w.heap.size → ownT g c k → ownT g c0 k := fun k hk h => (hin k h).resolve_right (by omega)
  rcases h with ⟨h1, t, v, h2, h3⟩ | ⟨flds, ln, s, rest, c2, b, cap, h1, h2, h3, h4, h5, h6, h7⟩
  · exact .inl ⟨h1, t, v, h2, ho.trans h3 key⟩
  · refine .inr ⟨flds, ln, s, rest, c2, b, cap, h1, h2, h3, h4, ho.trans h5 key, fun k hk => ?_, h7⟩
    rcases h6 k hk with h | h
    · exact hin k h
    · exact .inr (Nat.le_trans ho.size h)
/-- The first call: the header, then a record. -/
def hres (hdr : List (List UInt8)) (K : Nat × Bool → List UInt8 → Nat → RRes) : RRes → RRes
  | .err => .err
  | .ok flds ln s rest => if flds = hdr then K s rest ln else .err

set_option maxHeartbeats 1600000 in
set_option maxRecDepth 20000 in
theorem read0_calls (F : Interp) (g : Nat) (bE bF : Addr) (T : List UInt8) (what : ByteArray) (hd : Value) (hdr : List (List UInt8)) (R : RRes) (K : Nat × Bool → List UInt8 → Nat → RRes) (w : World) (hF : F.answers w.tape) (hS : Sent g bE bF w) (hm : Made g T (.string what) hd w) (hz : g + 6 ≤ w.heap.size)
    (hh : Hdr w g hd hdr) (hwh : what.size ≤ 1000000) (hn : hdr.length ≤ 1000000) (hl : hdr.flatten.length ≤ 1000000)
    (hC : CsvReads F g bE bF (if T.take 3 = mark then (3, false) else (0, false)) (if T.take 3 = mark then T.drop 3 else T) 0 R)
    (hK : ∀ ln s rest, R = .ok hdr ln s rest → CsvReads F g bE bF s rest ln (K s rest ln)) :
    Calls Tryf.prog 11 #[.pointer (some ⟨g + 5, 0, none⟩)] w (RDP g bE (.string what) hd cv0 (hres hdr K R) w) := by
  have cH := hdr_calls F g bE bF T what hd hdr R w hF hS hm hz hh hwh hn hl hC
  have t4 := hm.tab.cell (i := 4) rfl
  have HF := hid_of hF
  have HS := hid_of hS
  have HK := hid_of hK
  have cH' : Calls Tryf.prog 27 #[.pointer (some ⟨g + 5, 0, none⟩)] w fun e w' => ∃ E, e = .returned E ∧ Hid (HdP g bE (.string what) hd hdr R w e w') := by
    refine cH.mono ?_
    rintro e w' h
    have h' := h
    rcases h with ⟨⟨t, v, he⟩, -⟩ | ⟨ln, s, rest, c, -, he, -⟩
    · exact ⟨_, he, h'⟩
    · exact ⟨_, he, h'⟩
  clear cH hm hF hS hh hC hK
  go_enter Tryf.func11, Tryf.ntmps11
  go_upto_region 3 with (go_at_call 27; go_fit cH'; rintro e w1 ⟨E, rfl, hhd⟩)
  rcases hhd.out with ⟨⟨t, v, he⟩, ho1, hne⟩ | ⟨ln, s, rest, c, hR, he, hst, hnl, ho1, hin⟩
  · simp only [Ending.returned.injEq] at he
    subst he
    have HO1 := hid_of ho1
    have HR : Hid (hres hdr K R = .err) := by
      show hres hdr K R = .err
      cases R with
      | err => rfl
      | ok flds ln s rest =>
        exact if_neg (hne flds ln s rest rfl)
    clear hhd ho1 hne
    go_wp2_with fail
    go_ret3
    exact .inl ⟨HR.out, t, v, rfl, HO1.out⟩
  · simp only [Ending.returned.injEq] at he
    subst he
    have hS1 : Sent g bE bF w1 := HS.out.only ho1 (fun k hk h => by rcases h with h | h; (rcases ownR0 h with h | h; (unfold own at h; omega); omega); omega)
    have hF1 : F.answers w1.tape := by rw [ho1.tape]; exact HF.out
    have hRK : hres hdr K R = K s rest ln := by rw [hR]; exact if_pos rfl
    have HO1 := hid_of ho1
    have HIN := hid_of hin
    clear ho1 hin
    obtain ⟨r, hsrc⟩ := hst.src
    obtain ⟨bytes, ixs, ps, hrow⟩ := hst.rows
    have cC := (HK.out ln s rest hR) c bytes ixs ps r w1 hnl hF1 hS1 hsrc hrow
    have hge := hrow.ge
    have t1 := hst.tab.cell (i := 1) rfl
    have t4 := hst.tab.cell (i := 4) rfl
    have HRK := hid_of hRK
    have HGE : Hid (∀ k, ownR g c k → k ≠ g + 5) := by
      intro k hk h
      subst h
      obtain ⟨n1, x1, h1⟩ := hrow.raw
      obtain ⟨n2, h2⟩ := hrow.pos
      obtain ⟨n3, x3, h3⟩ := hrow.last
      rcases hk with h | h | h | h | h | h | h
      · unfold own at h; omega
      · omega
      · have := (h1.lt _ h).1; omega
      · have := (hrow.rbuf.lt _ h).1; omega
      · have := (hrow.idx.lt _ h).1; omega
      · have := (h2.lt _ h).1; omega
      · have := (h3.lt _ h).1; omega
    have HST := hid_of hst
    clear hst hrow hsrc hge hS1 hF1 hhd
    have cC' : Calls Tryf.prog 28 #[.pointer (some ⟨g + 4, 0, none⟩)] w1 fun e w' => ∃ q m qc E, e = .returned (.tuple #[.slice q m qc, E]) ∧ Hid (CR g c bE (K s rest ln) w1 e w') := by
      refine cC.mono ?_
      rintro e w' h
      have h' := h
      rcases h with ⟨-, q, m, qc, E, he, -⟩ | ⟨flds, nl, s, rest, r, c, by', ix, ps, b, cap, -, he, -⟩
      · exact ⟨q, m, qc, E, he, h'⟩
      · exact ⟨_, _, _, _, he, h'⟩
    clear cC hRK
    go_upto_region 6 with (go_at_call 28; go_fit cC'; rintro e w3 ⟨q, m, qc, E, rfl, hcr⟩)
    rcases hcr.out with ⟨hR, q', m', qc', E', he, hE, ho3⟩ | ⟨flds, nl', s', rest', r', c2, by', ix, ps, b, fc, hR, he, hsrc3, hrow3, hfr3, hnl3, hown3, col, tl, hps⟩
    · have heE : E = E' := by
        simp only [Ending.returned.injEq, Value.tuple.injEq] at he
        have := congrArg Array.toList he
        simp at this
        exact this.2
      subst heE
      clear he
      obtain ⟨t, v, rfl, -⟩ := hE
      have HO3 := hid_of ho3
      have HR := hid_of hR
      clear hcr ho3 hR
      go_wp2_with fail
      go_ret3
      exact rdp_lift HO1.out HIN.out (.inl ⟨HRK.out.trans HR.out, t, v, rfl, HO3.out.mono (fun k _ h => .inl h)⟩)
    · have heq : q = some ⟨b, 0, none⟩ ∧ m = flds.length ∧ qc = fc ∧ E = .nilIface := by
        simp only [Ending.returned.injEq, Value.tuple.injEq] at he
        have := congrArg Array.toList he
        simp at this
        exact ⟨this.1.1, this.1.2.1, this.1.2.2, this.2⟩
      obtain ⟨rfl, rfl, rfl, rfl⟩ := heq
      clear he
      subst hps
      have ht3 := hfr3.only.sat HST.out.tab (fun h => HGE.out _ h rfl)
      have t1' := ht3.cell (i := 1) rfl
      have cFP := fp_calls g c2 by' ix tl nl' col w3 hrow3
      have HR := hid_of hR
      have HSR := hid_of hsrc3
      have HRW := hid_of hrow3
      have HFR := hid_of hfr3
      have HT3 := hid_of ht3
      have HOW := hid_of hown3
      have HNL := hid_of hnl3
      obtain ⟨m, hm⟩ : ∃ m, flds.length = m := ⟨_, rfl⟩
      rw [hm] at HOW ⊢
      have HM := hid_of hm
      clear hR hsrc3 hrow3 hfr3 ht3 hown3 hnl3 hcr hm
      go_wp2_with (go_at_call 29; go_fit cFP; rintro e w4 ⟨rfl, hq4⟩)
      go_ret3
      have h0 : Only (fun _ => False) w3 w4 := hq4.only _
      refine rdp_lift HO1.out HIN.out (.inr ⟨flds, nl', s', rest', c2, b, qc, HRK.out.trans HR.out, by rw [HM.out]; rfl, ⟨h0.sat HT3.out (fun h => h), ⟨r', HSR.out.only h0 (fun _ _ h => h)⟩, ⟨_, _, _, HRW.out.only h0 (fun _ _ h => h)⟩⟩, HNL.out, (HFR.out.only.mono (fun k _ h => .inl h)).quiet hq4, HFR.out.in_own, ?_⟩)
      rw [HM.out]
      exact ownsRow_only HOW.out h0 (fun _ _ h => h)
end Go.Proofs.Qxb6614395aFmt
