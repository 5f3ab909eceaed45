import Derived.Test.Qxb6614395aFmtE4
set_option linter.unusedSimpArgs false
set_option linter.unusedVariables false
namespace Go.Proofs.Qxb6614395aFmt
open Go Go.RowKit Go.Deep Go.Extern.Stop Go.Stop Go.Extern
attribute [local go_sem] str_size str_get str_extract str_toList str_append
/-- What Reader.Read gives; nl: how many lines were read before. -/
def RDQ (g : Nat) (bE : Addr) (what hd : Value) (c0 : CV) (nl : Nat) (R : QRes) (w : World) (e : Ending) (w' : World) : Prop :=
  (R = .err ∧ ∃ t v, e = .returned (.tuple #[.slice none 0 0, .int .i64 0, .iface t v]) ∧ Only (ownT g c0) w w') ∨
  (∃ flds a b s rest c bk cap, R = .ok flds a b s rest ∧ e = .returned (.tuple #[.slice (some ⟨bk, 0, none⟩) flds.length cap, .int .i64 ((nl + a : Nat) : Int), .nilIface]) ∧ RdSt g bE what hd c s rest w' ∧ c.nl = nl + b ∧ c.nl + rest.length ≤ 1000000 ∧ Only (ownT g c0) w w' ∧ (∀ k, ownT g c k → ownT g c0 k ∨ w.heap.size ≤ k) ∧
    ownT g c bk ∧ Strs w' bk 0 flds ∧ flds.length ≤ 9223372036854775807)
theorem own_strs {w : World} {base b cap : Nat} {flds : List (List UInt8)} (h : w.ownsRow base 9 1 (.slice (some ⟨b, 0, none⟩) flds.length cap) flds.length (strC flds)) : Strs w b 0 flds := by
  intro i hi
  have := h.cellAt i (by omega)
  rw [strC_get flds i hi] at this
  rw [Nat.zero_add]
  exact this
theorem own_bound {w : World} {base b cap : Nat} {flds : List (List UInt8)} (h : w.ownsRow base 9 1 (.slice (some ⟨b, 0, none⟩) flds.length cap) flds.length (strC flds)) : flds.length ≤ 9223372036854775807 := by
  rcases h.2 with ⟨h1, h2⟩ | ⟨b', cap', cur, h1, h2, h3, h4, h5, -⟩
  · omega
  · unfold maxLen at h5; omega

set_option maxHeartbeats 1600000 in
set_option maxRecDepth 20000 in
theorem readq_calls (F : Interp) (g : Nat) (bE bF : Addr) (what hd : Value) (c0 : CV) (s : Nat × Bool) (rest : List UInt8) (w : World) (hE : EnvW F g bE bF w) (hst : RdSt g bE what hd c0 s rest w) (hn : c0.nl + rest.length ≤ 1000000) :
    Calls Tryf.prog 11 #[.pointer (some ⟨g + 5, 0, none⟩)] w (RDQ g bE what hd c0 c0.nl (qx s rest 0) w) := by
  obtain ⟨r, hsrc⟩ := hst.src
  obtain ⟨bytes, ixs, ps, hrow⟩ := hst.rows
  have cC := csvq F g bE bF s rest c0 bytes ixs ps r w hn hE hsrc hrow
  obtain ⟨R, hRR⟩ : ∃ R, qx s rest 0 = R := ⟨_, rfl⟩
  rw [hRR] at cC ⊢
  clear hRR
  have hge := hrow.ge
  have t1 := hst.tab.cell (i := 1) rfl
  have t4 := hst.tab.cell (i := 4) rfl
  have HGE : Hid (∀ k, ownR g c0 k → k ≠ g + 5) := by
    intro k hk h
    subst h
    obtain ⟨n1, x1, h1⟩ := hrow.raw
    obtain ⟨n2, h2⟩ := hrow.pos
    obtain ⟨n3, x3, h3⟩ := hrow.last
    rcases hk with h | h | h | h | h | h | h
    · unfold own at h; omega
    · omega
    · have := (h1.lt _ h).1; omega
    · have := (hrow.rbuf.lt _ h).1; omega
    · have := (hrow.idx.lt _ h).1; omega
    · have := (h2.lt _ h).1; omega
    · have := (h3.lt _ h).1; omega
  have HST := hid_of hst
  clear hst hrow hsrc hge
  have cC' : Calls Tryf.prog 28 #[.pointer (some ⟨g + 4, 0, none⟩)] w fun e w' => ∃ q m qc E, e = .returned (.tuple #[.slice q m qc, E]) ∧ Hid (CRQ g c0 bE R w e w') := by
    refine cC.mono ?_
    rintro e w' h
    have h' := h
    rcases h with ⟨-, q, m, qc, E, he, -⟩ | ⟨flds, a, b, s, rest, r, c, by', ix, ps, bk, cap, -, he, -⟩
    · exact ⟨q, m, qc, E, he, h'⟩
    · exact ⟨_, _, _, _, he, h'⟩
  clear cC
  go_enter Tryf.func11, Tryf.ntmps11
  go_upto_region 6 with (go_at_call 28; go_fit cC'; rintro e w3 ⟨q, m, qc, E, rfl, hcr⟩)
  rcases hcr.out with ⟨hR, q', m', qc', E', he, hE, ho3⟩ | ⟨flds, a9, b9, s', rest', r', c, by', ix, ps, b, fc, hR, he, hsrc3, hrow3, hfr3, hla3, hnl3, hbd3, hown3, col, tl, hps⟩
  · have heE : E = E' := by
      simp only [Ending.returned.injEq, Value.tuple.injEq] at he
      have := congrArg Array.toList he
      simp at this
      exact this.2
    subst heE
    clear he
    obtain ⟨t, v, rfl, -⟩ := hE
    have HO3 := hid_of ho3
    have HR := hid_of hR
    clear hcr ho3 hR
    go_wp2_with fail
    go_ret3
    exact .inl ⟨HR.out, t, v, rfl, HO3.out.mono (fun k _ h => .inl h)⟩
  · have heq : q = some ⟨b, 0, none⟩ ∧ m = flds.length ∧ qc = fc ∧ E = .nilIface := by
      simp only [Ending.returned.injEq, Value.tuple.injEq] at he
      have := congrArg Array.toList he
      simp at this
      exact ⟨this.1.1, this.1.2.1, this.1.2.2, this.2⟩
    obtain ⟨rfl, rfl, rfl, rfl⟩ := heq
    clear he
    subst hps
    have ht3 := hfr3.only.sat HST.out.tab (fun h => HGE.out _ h rfl)
    have t1' := ht3.cell (i := 1) rfl
    have cFP := fpq_calls g c by' ix tl (c0.nl + a9) col w3 hrow3
    have HR := hid_of hR
    have HSR := hid_of hsrc3
    have HRW := hid_of hrow3
    have HFR := hid_of hfr3
    have HT3 := hid_of ht3
    have HOW := hid_of (And.intro (own_strs hown3) (own_bound hown3))
    have HNL := hid_of hnl3
    have HBD := hid_of hbd3
    have HLA : Hid (c.last.ownBlock = some b) := by show _ = _; rw [hla3]; rfl
    obtain ⟨m, hm⟩ : ∃ m, flds.length = m := ⟨_, rfl⟩
    rw [hm]
    have HM := hid_of hm
    clear hR hsrc3 hrow3 hfr3 ht3 hown3 hnl3 hbd3 hla3 hcr hm
    go_wp2_with (go_at_call 29; go_fit cFP; rintro e w4 ⟨rfl, hq4⟩)
    go_ret3
    have h0 : Only (fun _ => False) w3 w4 := hq4.only _
    exact .inr ⟨flds, a9, b9, s', rest', c, b, qc, HR.out, by rw [HM.out]; rfl, ⟨h0.sat HT3.out (fun h => h), ⟨r', HSR.out.only h0 (fun _ _ h => h)⟩, ⟨_, _, _, HRW.out.only h0 (fun _ _ h => h)⟩⟩, HNL.out, HBD.out, (HFR.out.only.mono (fun k _ h => .inl h)).quiet hq4, HFR.out.in_own, .inl (.inr (.inr (.inr (.inr (.inr (.inr HLA.out)))))), HOW.out.1.only h0 (fun h => h), HOW.out.2⟩

theorem rdq_lift {g : Nat} {bE : Addr} {what hd : Value} {c0 c : CV} {nl : Nat} {R : QRes} {w w1 : World} {e : Ending} {w' : World} (ho : Only (ownT g c0) w w1) (hin : ∀ k, ownT g c k → ownT g c0 k ∨ w.heap.size ≤ k) (h : RDQ g bE what hd c nl R w1 e w') : RDQ g bE what hd c0 nl R w e w' := by
  have key : ∀ k, k < w.heap.size → ownT g c k → ownT g c0 k := fun k hk h => (hin k h).resolve_right (by omega)
  rcases h with ⟨h1, t, v, h2, h3⟩ | ⟨flds, a, b, s, rest, c2, bk, cap, h1, h2, h3, h4, hbd, h5, h6, h7, h8⟩
  · exact .inl ⟨h1, t, v, h2, ho.trans h3 key⟩
  · refine .inr ⟨flds, a, b, s, rest, c2, bk, cap, h1, h2, h3, h4, hbd, ho.trans h5 key, fun k hk => ?_, h7, h8⟩
    rcases h6 k hk with h | h
    · exact hin k h
    · exact .inr (Nat.le_trans ho.size h)

set_option maxHeartbeats 1600000 in
set_option maxRecDepth 20000 in
theorem readq0_calls (F : Interp) (g : Nat) (bE bF : Addr) (T : List UInt8) (what : ByteArray) (hd : Value) (hdr : List (List UInt8)) (a b : Nat) (s : Nat × Bool) (rest : List UInt8) (w : World) (hE : EnvW F g bE bF w) (hm : Made g T (.string what) hd w) (hz : g + 6 ≤ w.heap.size)
    (hh : Hdr w g hd hdr) (hwh : what.size ≤ 1000000) (hn : hdr.length ≤ 1000000) (hl : hdr.flatten.length ≤ 1000000) (hmk : T.take 3 ≠ mark) (hT : T.length ≤ 1000000) (hR : qx (0, false) T 0 = .ok hdr a b s rest) :
    Calls Tryf.prog 11 #[.pointer (some ⟨g + 5, 0, none⟩)] w (RDQ g bE (.string what) hd cv0 b (qx s rest 0) w) := by
  have cH := hdrq_calls F g bE bF T what hd hdr a b s rest w hE hm hz hh hwh hn hl hmk hT hR
  have t4 := hm.tab.cell (i := 4) rfl
  have HE := hid_of hE
  have cH' : Calls Tryf.prog 27 #[.pointer (some ⟨g + 5, 0, none⟩)] w fun e w' => e = .returned .nilIface ∧ Hid (HdQ g bE (.string what) hd b s rest w e w') := by
    refine cH.mono ?_
    rintro e w' h
    exact ⟨h.1, h⟩
  clear cH hm hE hh hR
  go_enter Tryf.func11, Tryf.ntmps11
  go_upto_region 3 with (go_at_call 27; go_fit cH'; rintro e w1 ⟨rfl, hhd⟩)
  obtain ⟨-, c, hst, hnl, hnb, ho1, hin⟩ := hhd.out
  subst hnl
  have hE1 : EnvW F g bE bF w1 := HE.out.only ho1 (fun k hk h => by rcases h with h | h; (rcases ownR0 h with h | h; (unfold own at h; omega); omega); omega)
  have HO1 := hid_of ho1
  have HIN := hid_of hin
  clear ho1 hin
  obtain ⟨r, hsrc⟩ := hst.src
  obtain ⟨bytes, ixs, ps, hrow⟩ := hst.rows
  have cC := csvq F g bE bF s rest c bytes ixs ps r w1 hnb hE1 hsrc hrow
  obtain ⟨R, hRR⟩ : ∃ R, qx s rest 0 = R := ⟨_, rfl⟩
  rw [hRR] at cC
  have HRR := hid_of hRR
  clear hRR
  have hge := hrow.ge
  have t1 := hst.tab.cell (i := 1) rfl
  have t4 := hst.tab.cell (i := 4) rfl
  have HGE : Hid (∀ k, ownR g c k → k ≠ g + 5) := by
    intro k hk h
    subst h
    obtain ⟨n1, x1, h1⟩ := hrow.raw
    obtain ⟨n2, h2⟩ := hrow.pos
    obtain ⟨n3, x3, h3⟩ := hrow.last
    rcases hk with h | h | h | h | h | h | h
    · unfold own at h; omega
    · omega
    · have := (h1.lt _ h).1; omega
    · have := (hrow.rbuf.lt _ h).1; omega
    · have := (hrow.idx.lt _ h).1; omega
    · have := (h2.lt _ h).1; omega
    · have := (h3.lt _ h).1; omega
  have HST := hid_of hst
  clear hst hrow hsrc hge hE1 hhd
  have cC' : Calls Tryf.prog 28 #[.pointer (some ⟨g + 4, 0, none⟩)] w1 fun e w' => ∃ q m qc E, e = .returned (.tuple #[.slice q m qc, E]) ∧ Hid (CRQ g c bE R w1 e w') := by
    refine cC.mono ?_
    rintro e w' h
    have h' := h
    rcases h with ⟨-, q, m, qc, E, he, -⟩ | ⟨flds, a, b, s, rest, r, c, by', ix, ps, bk, cap, -, he, -⟩
    · exact ⟨q, m, qc, E, he, h'⟩
    · exact ⟨_, _, _, _, he, h'⟩
  clear cC
  go_upto_region 6 with (go_at_call 28; go_fit cC'; rintro e w3 ⟨q, m, qc, E, rfl, hcr⟩)
  rcases hcr.out with ⟨hR, q', m', qc', E', he, hE, ho3⟩ | ⟨flds, a9, b9, s', rest', r', c2, by', ix, ps, b, fc, hR, he, hsrc3, hrow3, hfr3, hla3, hnl3, hbd3, hown3, col, tl, hps⟩
  · have heE : E = E' := by
      simp only [Ending.returned.injEq, Value.tuple.injEq] at he
      have := congrArg Array.toList he
      simp at this
      exact this.2
    subst heE
    clear he
    obtain ⟨t, v, rfl, -⟩ := hE
    have HO3 := hid_of ho3
    have HR := hid_of hR
    clear hcr ho3 hR
    go_wp2_with fail
    go_ret3
    exact rdq_lift HO1.out HIN.out (.inl ⟨HRR.out.trans HR.out, t, v, rfl, HO3.out.mono (fun k _ h => .inl h)⟩)
  · have heq : q = some ⟨b, 0, none⟩ ∧ m = flds.length ∧ qc = fc ∧ E = .nilIface := by
      simp only [Ending.returned.injEq, Value.tuple.injEq] at he
      have := congrArg Array.toList he
      simp at this
      exact ⟨this.1.1, this.1.2.1, this.1.2.2, this.2⟩
    obtain ⟨rfl, rfl, rfl, rfl⟩ := heq
    clear he
    subst hps
    have ht3 := hfr3.only.sat HST.out.tab (fun h => HGE.out _ h rfl)
    have t1' := ht3.cell (i := 1) rfl
    have cFP := fpq_calls g c2 by' ix tl (c.nl + a9) col w3 hrow3
    have HR := hid_of hR
    have HSR := hid_of hsrc3
    have HRW := hid_of hrow3
    have HFR := hid_of hfr3
    have HT3 := hid_of ht3
    have HOW := hid_of (And.intro (own_strs hown3) (own_bound hown3))
    have HNL := hid_of hnl3
    have HBD := hid_of hbd3
    have HLA : Hid (c2.last.ownBlock = some b) := by show _ = _; rw [hla3]; rfl
    obtain ⟨m, hm⟩ : ∃ m, flds.length = m := ⟨_, rfl⟩
    rw [hm]
    have HM := hid_of hm
    clear hR hsrc3 hrow3 hfr3 ht3 hown3 hnl3 hbd3 hla3 hcr hm
    go_wp2_with (go_at_call 29; go_fit cFP; rintro e w4 ⟨rfl, hq4⟩)
    go_ret3
    have h0 : Only (fun _ => False) w3 w4 := hq4.only _
    exact rdq_lift HO1.out HIN.out (.inr ⟨flds, a9, b9, s', rest', c2, b, qc, HRR.out.trans HR.out, by rw [HM.out]; rfl, ⟨h0.sat HT3.out (fun h => h), ⟨r', HSR.out.only h0 (fun _ _ h => h)⟩, ⟨_, _, _, HRW.out.only h0 (fun _ _ h => h)⟩⟩, HNL.out, HBD.out, (HFR.out.only.mono (fun k _ h => .inl h)).quiet hq4, HFR.out.in_own, .inl (.inr (.inr (.inr (.inr (.inr (.inr HLA.out)))))), HOW.out.1.only h0 (fun h => h), HOW.out.2⟩)
end Go.Proofs.Qxb6614395aFmt
