import Derived.Test.Qxb6614395aFmtE3
import Derived.Test.Qxb6614395aFmtW23
import Derived.Test.Qxb6614395aFmtW27
import Derived.Test.Qxb6614395aFmtW30
import Derived.Stop.Asserts
set_option linter.unusedSimpArgs false
set_option linter.unusedVariables false
namespace Go.Proofs.Qxb6614395aFmt
open Go Go.RowKit Go.Deep Go.Extern.Stop Go.Stop Go.Extern
attribute [local go_sem] str_size str_get str_extract str_toList str_append
/-- What holds of a world in which a reader with first block g works. -/
structure EnvW (F : Interp) (g : Nat) (bE bF : Addr) (w : World) : Prop where
  hF : F.answers w.tape
  hS : Sent g bE bF w
  g12 : 12 < g
  tabs : Lib.Utf8Tabs 11 12 w
  e2 : ∃ t x, w.cell? ⟨2, 0, none⟩ = some (.iface t x)
  e3 : ∃ t x, w.cell? ⟨3, 0, none⟩ = some (.iface t x)
theorem EnvW.only {S : Nat → Prop} {F : Interp} {g : Nat} {bE bF : Addr} {w w' : World} (h : EnvW F g bE bF w) (ho : Only S w w') (hS : ∀ k, k < g → ¬ S k) : EnvW F g bE bF w' := by
  have hg := h.g12
  obtain ⟨t2, x2, h2⟩ := h.e2
  obtain ⟨t3, x3, h3⟩ := h.e3
  exact ⟨by rw [ho.tape]; exact h.hF, h.hS.only ho hS, hg, tabs_only h.tabs ho (hS _ (by omega)) (hS _ (by omega)), ⟨t2, x2, ho.cell h2 (hS _ (by simp only []; omega))⟩, ⟨t3, x3, ho.cell h3 (hS _ (by simp only []; omega))⟩⟩
/-- The same for a reader that begins later. -/
theorem EnvW.up {F : Interp} {g g' : Nat} {bE bF : Addr} {w : World} (h : EnvW F g bE bF w) (hg : g ≤ g') : EnvW F g' bE bF w :=
  ⟨h.hF, ⟨h.hS.e, h.hS.f, h.hS.ne, Nat.lt_of_lt_of_le h.hS.eg hg, Nat.lt_of_lt_of_le h.hS.fg hg, Nat.lt_of_lt_of_le h.hS.g10 hg, h.hS.ce, h.hS.cf⟩, Nat.lt_of_lt_of_le h.g12 hg, h.tabs, h.e2, h.e3⟩
theorem EnvW.env {F : Interp} {g : Nat} {bE bF : Addr} {w : World} {c0 : CV} {bytes : List UInt8} {ixs ps : List Value} (h : EnvW F g bE bF w) (hr : Rows5 g c0 bytes ixs ps w) : Env F g bE bF c0 w := ⟨h.hF, h.hS, hr.ge, h.g12, h.tabs, h.e2, h.e3⟩

/-- csv's Read, wherever the text to come is rest. -/
theorem csvq (F : Interp) (g : Nat) (bE bF : Addr) (s : Nat × Bool) (rest : List UInt8) (c0 : CV) (bytes : List UInt8) (ixs ps : List Value) (r : Nat) (w : World) (hn : c0.nl + rest.length ≤ 1000000) (hE : EnvW F g bE bF w) (hsrc : Src g (tripA bE) s rest r w) (hrows : Rows5 g c0 bytes ixs ps w) :
    Calls Tryf.prog 28 #[.pointer (some ⟨g + 4, 0, none⟩)] w (CRQ g c0 bE (qx s rest 0) w) :=
  crq_calls F g c0 bE bF s rest r bytes ixs ps w (hE.env hrows) hn hsrc hrows

/-- All blocks of a reader of tables. -/
def ownT (g : Nat) (c : CV) (k : Nat) : Prop := ownR g c k ∨ k = g + 5
/-- A reader of tables whose header has been read. -/
structure RdSt (g : Nat) (bE : Addr) (what hd : Value) (c : CV) (s : Nat × Bool) (rest : List UInt8) (w : World) : Prop where
  tab : SAt (g + 5) 59 (tabC g what hd true) w
  src : ∃ r, Src g (tripA bE) s rest r w
  rows : ∃ bytes ixs ps, Rows5 g c bytes ixs ps w
/-- What the header's reading leaves. -/
def HdQ (g : Nat) (bE : Addr) (what hd : Value) (b : Nat) (s : Nat × Bool) (rest : List UInt8) (w : World) (e : Ending) (w' : World) : Prop :=
  e = .returned .nilIface ∧ ∃ c, RdSt g bE what hd c s rest w' ∧ c.nl = b ∧ c.nl + rest.length ≤ 1000000 ∧ Only (ownT g cv0) w w' ∧ ∀ k, ownT g c k → ownT g cv0 k ∨ w.heap.size ≤ k
theorem From.in_own {g : Nat} {c0 c : CV} {w0 w : World} (h : From g c0 c w0 w) : ∀ k, ownT g c k → ownT g c0 k ∨ w0.heap.size ≤ k := by
  rintro k ((h' | h' | h' | h' | h' | h' | h') | h')
  · exact .inl (.inl (.inl h'))
  · exact .inl (.inl (.inr (.inl h')))
  · exact (h.in_raw k h').imp .inl id
  · exact (h.in_rbuf k h').imp .inl id
  · exact (h.in_idx k h').imp .inl id
  · exact (h.in_pos k h').imp .inl id
  · exact (h.in_last k h').imp .inl id
  · exact .inl (.inr h')

theorem rows0 {g : Nat} {w : World} (hc : SAt (g + 4) 76 (csvC g cv0) w) (hz : g + 6 ≤ w.heap.size) : Rows5 g cv0 [] [] [] w :=
  ⟨hc, ⟨0, [], World.ownsRow_nil _ _ _ _⟩, World.ownsRow_nil _ _ _ _, World.ownsRow_nil _ _ _ _, ⟨0, World.ownsRow_nil _ _ _ _⟩, ⟨0, [], World.ownsRow_nil _ _ _ _⟩, (fun k hk => by cases hk), hz⟩
theorem eql_types (w : World) (t : TypeId) (v : Value) (a : Addr) (h : t ≠ 99) : (binOp .eql 32 (.iface t v) (.iface 99 (.pointer (some a)))).run Tryf.prog w = .ok (.bool false) w :=
  run_eql_iface_types (P := Tryf.prog) t 99 v _ Tryf.underlying32 h w
theorem ownR0 {g k : Nat} (h : ownR g cv0 k) : own g k ∨ k = g + 4 := by
  rcases h with h | h | h | h | h | h | h
  · exact .inl h
  · exact .inr h
  all_goals cases h

set_option maxHeartbeats 3200000 in
set_option maxRecDepth 20000 in
theorem hdrq_calls (F : Interp) (g : Nat) (bE bF : Addr) (T : List UInt8) (what : ByteArray) (hd : Value) (hdr : List (List UInt8)) (a b : Nat) (s' : Nat × Bool) (rest' : List UInt8) (w : World) (hE : EnvW F g bE bF w) (hm : Made g T (.string what) hd w) (hz : g + 6 ≤ w.heap.size)
    (hh : Hdr w g hd hdr) (hwh : what.size ≤ 1000000) (hn : hdr.length ≤ 1000000) (hl : hdr.flatten.length ≤ 1000000) (hmk : T.take 3 ≠ mark) (hT : T.length ≤ 1000000) (hR : qx (0, false) T 0 = .ok hdr a b s' rest') :
    Calls Tryf.prog 27 #[.pointer (some ⟨g + 5, 0, none⟩)] w (HdQ g bE (.string what) hd b s' rest' w) := by
  have cS : Calls Tryf.prog 35 #[.pointer (some ⟨g + 2, 0, none⟩)] w fun e w' => e = .returned .nilIface ∧ Only (own g) w w' ∧ ∃ r, Src g (tripA bE) (0, false) T r w' := by
    have := skip_calls F g bE bF T w hE.hF hE.hS hz hm.buf hm.run
    unfold SkPost at this
    rw [if_neg hmk, if_neg hmk] at this
    exact this
  obtain ⟨p, cap, n, hnl, rfl, hp⟩ : ∃ p cap n, hdr.length = n ∧ hd = .slice p n cap ∧ (n = 0 ∨ ∃ b, p = some ⟨b, 0, none⟩ ∧ Strs w b 0 hdr ∧ b < g) := by
    rcases hh with ⟨h1, h2⟩ | ⟨b, cap, h1, h2, h3, h4⟩
    · exact ⟨none, 0, 0, by rw [h2]; rfl, h1, .inl rfl⟩
    · exact ⟨_, cap, _, rfl, h1, .inr ⟨b, rfl, h2, h3⟩⟩
  have t0 := hm.tab.cell (i := 0) rfl
  have HM := hid_of hm
  have HE := hid_of hE
  have HH := hid_of hh
  have HR0 := hid_of hR
  have HL := hid_of hl
  have HN := hid_of hnl
  rw [hnl] at hn
  clear hm hE hh hR hl hnl hmk
  go_enter Tryf.func27, Tryf.ntmps27
  go_upto_region 4 with (go_at_call 35; go_fit cS; rintro e w1 ⟨rfl, ho1, r1, hsrc1⟩)
  have hm1 : SAt (g + 5) 59 (tabC g (.string what) (.slice p n cap) false) w1 := ho1.sat HM.out.tab (by unfold own; omega)
  have t3 := hm1.cell (i := 3) rfl
  have cJ := join_calls g (.slice p n cap) hdr w1 (HH.out.only ho1 (fun k hk h => by unfold own at h; omega)) (by have := ho1.size; omega) (by rw [HN.out]; exact hn) HL.out
  have HO1 := hid_of ho1
  have HSRC1 := hid_of hsrc1
  have HM1 := hid_of hm1
  clear ho1 hsrc1 hm1 cS
  go_upto_region 5 with (go_at_call 36; go_fit cJ; rintro e w2 ⟨⟨jn, rfl, hjn⟩, ho2⟩)
  have hm2 : SAt (g + 5) 59 (tabC g (.string what) (.slice p n cap) false) w2 := ho2.sat HM1.out (fun h => h)
  have t1 := hm2.cell (i := 1) rfl
  have HO2 : Hid (Only (own g) w w2) := HO1.out.trans ho2 (fun _ _ h => h.elim)
  have hsrc2 : Src g (tripA bE) (0, false) T r1 w2 := HSRC1.out.only ho2 (fun _ _ h => h)
  have hrow2 : Rows5 g cv0 [] [] [] w2 := rows0 (HO2.out.sat HM.out.csv (by unfold own; omega)) (by have := HO2.out.size; omega)
  have hE2 : EnvW F g bE bF w2 := HE.out.only HO2.out (fun k hk h => by unfold own at h; omega)
  have cC := csvq F g bE bF (0, false) T cv0 [] [] [] r1 w2 (by simp only [cv0]; omega) hE2 hsrc2 hrow2
  rw [HR0.out] at cC
  have HM2 := hid_of hm2
  have HS2 := hid_of hE2.hS
  clear ho2 hsrc2 hrow2 hE2 hm2 HSRC1 HM1 cJ
  have cC' : Calls Tryf.prog 28 #[.pointer (some ⟨g + 4, 0, none⟩)] w2 fun e w' => ∃ q m qc E, e = .returned (.tuple #[.slice q m qc, E]) ∧ Hid (CRQ g cv0 bE (.ok hdr a b s' rest') w2 e w') := by
    refine cC.mono ?_
    rintro e w' h
    have h' := h
    rcases h with ⟨-, q, m, qc, E, he, -⟩ | ⟨flds, a', b', s, rest, r, c, by', ix, ps, bk, cap, -, he, -⟩
    · exact ⟨q, m, qc, E, he, h'⟩
    · exact ⟨_, _, _, _, he, h'⟩
  clear cC
  go_upto_region 6 with (go_at_call 28; go_fit cC'; rintro e w3 ⟨q, m, qc, E, rfl, hcr⟩)
  rcases hcr.out with ⟨hR, -⟩ | ⟨flds, a', b', s'', rest'', r', c, by', ix, ps, bk, fc, hR, he, hsrc3, hrow3, hfr3, hlast3, hnl3, hbd3, hown3, col, tl, hps⟩
  · cases hR
  · simp only [QRes.ok.injEq] at hR
    obtain ⟨hflds, rfl, rfl, rfl, rfl⟩ := hR
    subst hflds
    have heq : q = some ⟨bk, 0, none⟩ ∧ m = hdr.length ∧ qc = fc ∧ E = .nilIface := by
      simp only [Ending.returned.injEq, Value.tuple.injEq] at he
      have := congrArg Array.toList he
      simp at this
      exact ⟨this.1.1, this.1.2.1, this.1.2.2, this.2⟩
    obtain ⟨rfl, hm, rfl, rfl⟩ := heq
    clear he
    have hS3 : Sent g bE bF w3 := HS2.out.only hfr3.only (fun k hk h => by rcases ownR0 h with h | h; (unfold own at h; omega); omega)
    have hE0 : w3.cell? ⟨0, 0, none⟩ = some (.iface 99 (.pointer (some bE))) := hS3.e
    have hO : Only (ownT g cv0) w w3 := (HO2.out.mono (S' := ownT g cv0) (fun k _ h => .inl (.inl h))).trans hfr3.only (fun k _ h => .inl h)
    have hm3 := hfr3.only.sat HM2.out (fun h => by rcases ownR0 h with h | h; (unfold own at h; omega); omega)
    have t3' := hm3.cell (i := 3) rfl
    have hst3 : Strs w3 bk 0 hdr := by
      intro i hi
      have := hown3.cellAt i (by omega)
      rw [strC_get hdr i hi] at this
      rw [Nat.zero_add]
      exact this
    have hp3 : n = 0 ∨ ∃ b, p = some ⟨b, 0, none⟩ ∧ Strs w3 b 0 hdr := by
      rcases hp with h | ⟨hb, h1, h2, h3⟩
      · exact .inl h
      · exact .inr ⟨hb, h1, h2.only hO (fun h => by rcases h with h | h; (rcases ownR0 h with h | h; (unfold own at h; omega); omega); omega)⟩
    have hq := eql_nil w3 bE
    have HSR := hid_of hsrc3
    have HRW := hid_of hrow3
    have HFR := hid_of hfr3
    have HOF := hid_of hO
    have HM3 := hid_of hm3
    have HST := hid_of hst3
    have HP3 := hid_of hp3
    have HML := hid_of hm
    have HS3 := hid_of hS3
    have HNL := hid_of hnl3
    have HBD3 := hid_of hbd3
    clear hsrc3 hrow3 hfr3 hO hm3 hst3 hp3 hm hcr hS3 hnl3 hown3
    go_upto_region 12 with fail
    have hmn : m = n := by have h1 := HML.out; have h2 := HN.out; omega
    go_loopg [7, 8] (n + 1) (fun f v7 v8 wr => ∃ (i : Nat), v7 = .bool false ∧ v8 = .int .i64 (i : Int) ∧ i ≤ n ∧ n < f + i ∧ Hid (Quiet w3 wr))
    case atStart =>
      exact ⟨0, by rw [hmn]; simp, rfl, by omega, by omega, Quiet.refl _⟩
    case round =>
      obtain ⟨i, rfl, rfl, hi, hif, hqu⟩ := hrel
      obtain ⟨f, rfl⟩ : ∃ f, gk = f + 1 := ⟨gk - 1, by omega⟩
      have hm3 := hqu.out.sat HM3.out
      have t3r := hm3.cell (i := 3) rfl
      by_cases hlt : i < n
      · obtain ⟨hb, rfl, hsh⟩ := HP3.out.resolve_left (by omega)
        have hL1 := HN.out
        have hi1 : i < hdr.length := by omega
        have h1 := hqu.out.strs HST.out i hi1
        have h2 := hqu.out.strs hsh i hi1
        rw [Nat.zero_add] at h1 h2
        have him : (i : Int) < (m : Int) := by omega
        obtain ⟨x, hxi⟩ : ∃ x, hdr[i] = x := ⟨_, rfl⟩
        rw [hxi] at h1 h2
        clear hxi hsh hL1 hi1 hm3
        go_wp2_with fail
        go_quiet (fail)
        go_wp2_with fail
        go_roundg f
        case measure => omega
        case rel => exact ⟨i + 1, by simp, rfl, by omega, by omega, hqu.out.drewN _⟩
      · obtain rfl : i = n := by omega
        have f4 := hm3.frozen 4
        have t4 := hm3.cell (i := 4) rfl
        go_wp2_with fail
        go_ret
        subst hps
        have h5 : Only (fun k => k = g + 5) wr (wr.setCell ⟨g + 5, 4, none⟩ (.bool true)) := (Only.refl (fun k => k = g + 5) _).setCell (.inl rfl) _
        have hq0 : Only (fun _ => False) w3 wr := hqu.out.only _
        refine ⟨rfl, c, ⟨hm3.set' 4 _ (by simp [tabC]), ⟨r', ?_⟩, ⟨by', ix, (.int .i64 ((cv0.nl + a : Nat) : Int) :: .int .i64 col :: tl), ?_⟩⟩, ?_, HBD3.out, ?_, ?_⟩
        · exact (HSR.out.only hq0 (fun _ _ h => h)).only h5 (fun k hk h => by unfold own at hk; omega)
        · exact (HRW.out.only hq0 (fun _ _ h => h)).only h5 (fun k hk h => by
            subst h
            have h0 := HRW.out
            obtain ⟨n1, x1, h1⟩ := h0.raw
            obtain ⟨n2, h2⟩ := h0.pos
            obtain ⟨n3, x3, h3⟩ := h0.last
            rcases hk with h | h | h | h | h | h
            · omega
            · have := (h1.lt _ h).1; omega
            · have := (h0.rbuf.lt _ h).1; omega
            · have := (h0.idx.lt _ h).1; omega
            · have := (h2.lt _ h).1; omega
            · have := (h3.lt _ h).1; omega)
        · have := HNL.out
          simpa [cv0] using this
        · exact (HOF.out.quiet hqu.out).setCell (.inl (.inr rfl)) _
        · intro k hk
          rcases HFR.out.in_own k hk with h | h
          · exact .inl h
          · exact .inr (Nat.le_trans HO2.out.size h)
end Go.Proofs.Qxb6614395aFmt
