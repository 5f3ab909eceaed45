import Derived.Test.Qxb6614395aFmtE2
set_option linter.unusedSimpArgs false
set_option linter.unusedVariables false
namespace Go.Proofs.Qxb6614395aFmt
open Go Go.RowKit Go.Deep Go.Extern.Stop Go.Stop Go.Extern
attribute [local go_sem] str_size str_get str_extract str_toList str_append
/-- What csv's Read gives. -/
def CRQ (g : Nat) (c0 : CV) (bE : Addr) (R : QRes) (w : World) (e : Ending) (w' : World) : Prop :=
  (R = .err ∧ ∃ p n cap E, e = .returned (.tuple #[.slice p n cap, E]) ∧ ErrQ g bE E w' ∧ Only (ownR g c0) w w') ∨
  (∃ flds a b s rest r c bytes ixs ps bd cap, R = .ok flds a b s rest ∧ e = .returned (.tuple #[.slice (some ⟨bd, 0, none⟩) flds.length cap, .nilIface]) ∧ Src g (tripA bE) s rest r w' ∧ Rows5 g c bytes ixs ps w' ∧ From g c0 c w w' ∧ c.last = .slice (some ⟨bd, 0, none⟩) flds.length cap ∧ c.nl = c0.nl + b ∧ c.nl + rest.length ≤ 1000000 ∧
    w'.ownsRow (g + 6) 9 1 (.slice (some ⟨bd, 0, none⟩) flds.length cap) flds.length (strC flds) ∧ (∃ col t, ps = .int .i64 ((c0.nl + a : Nat) : Int) :: .int .i64 col :: t))

theorem Rows5.setLastQ {g : Nat} {c : CV} {bytes : List UInt8} {ixs ps : List Value} {w : World} {v : Value} {n : Nat} {xs : List Value} (h : Rows5 g c bytes ixs ps w) (ho : w.ownsRow (g + 6) 9 1 v n xs) : Rows5 g { c with last := v } bytes ixs ps (w.setCell ⟨g + 4, 14, none⟩ v) := by
  have h4 : Only (fun k => k = g + 4) w (w.setCell ⟨g + 4, 14, none⟩ v) := (Only.refl (fun k => k = g + 4) _).setCell (.inl rfl) _
  obtain ⟨n1, x1, h1⟩ := h.raw
  obtain ⟨n2, h2⟩ := h.pos
  exact ⟨h.csv.set' 14 _ (by simp [csvC]), ⟨n1, x1, ownsRow_only h1 h4 (fun k hk hk' => by have := (h1.lt k hk).1; omega)⟩, ownsRow_only h.rbuf h4 (fun k hk hk' => by have := (h.rbuf.lt k hk).1; omega), ownsRow_only h.idx h4 (fun k hk hk' => by have := (h.idx.lt k hk).1; omega),
    ⟨n2, ownsRow_only h2 h4 (fun k hk hk' => by have := (h2.lt k hk).1; omega)⟩, ⟨n, xs, ownsRow_only ho h4 (fun k hk hk' => by have := (ho.lt k hk).1; omega)⟩, h.apart, Nat.le_trans h.size h4.size⟩

set_option maxHeartbeats 800000 in
set_option maxRecDepth 20000 in
theorem crq_calls (F : Interp) (g : Nat) (c0 : CV) (bE bF : Addr) (s : Nat × Bool) (rest : List UInt8) (r : Nat) (bytes0 : List UInt8) (ixs0 ps0 : List Value) (w : World) (E : Env F g bE bF c0 w) (hlen : c0.nl + rest.length ≤ 1000000)
    (hsrc : Src g (tripA bE) s rest r w) (hrows : Rows5 g c0 bytes0 ixs0 ps0 w) :
    Calls Tryf.prog 28 #[.pointer (some ⟨g + 4, 0, none⟩)] w (CRQ g c0 bE (qx s rest 0) w) := by
  have cR := rrq_calls F g c0 bE bF s rest r bytes0 ixs0 ps0 w E hlen hsrc hrows
  obtain ⟨R, hR⟩ : ∃ R, qx s rest 0 = R := ⟨_, rfl⟩
  rw [hR] at cR ⊢
  have d5 := hrows.csv.cell (i := 5) rfl
  have d14 := hrows.csv.cell (i := 14) rfl
  clear hrows hsrc E hR hlen
  have cR' : Calls Tryf.prog 38 #[.pointer (some ⟨g + 4, 0, none⟩), c0.last] w fun e w' => ∃ p n cap E, e = .returned (.tuple #[.slice p n cap, E]) ∧ RRQ g c0 bE R w e w' ∧ ∃ c', SAt (g + 4) 76 (csvC g c') w' := by
    refine cR.mono ?_
    rintro e w1 h
    have h' := h
    rcases h with ⟨h0, p, n, cap, E, he, -, -, hc⟩ | ⟨flds, a9, n9, s9, rest9, r9, c9, by9, ix9, ps9, b9, cp9, h0, he, -, hrow, -⟩
    · exact ⟨p, n, cap, E, he, h', hc⟩
    · exact ⟨_, _, _, _, he, h', c9, hrow.csv⟩
  clear cR
  go_enter Tryf.func28, Tryf.ntmps28
  go_upto_region 3 with (go_at_call 38; go_fit cR'; rintro e w1 ⟨p, n, cap, E, rfl, hrr, c1, hc1⟩)
  have d14' := hc1.cell (i := 14) rfl
  have f14 := hc1.frozen 14
  have h4 : Only (fun k => k = g + 4) w1 (w1.setCell ⟨g + 4, 14, none⟩ (.slice p n cap)) := (Only.refl (fun k => k = g + 4) _).setCell (.inl rfl) _
  have HRR := hid_of hrr
  have H4 := hid_of h4
  clear hrr hc1 h4
  go_wp2_with fail
  go_ret2
  rcases HRR.out with ⟨h0, p', n', cap', E', he, hE, ho, -⟩ | ⟨flds, a9, n9, s9, rest9, r9, c9, by9, ix9, ps9, b9, cp9, h0, he, hs, hrow, hfr, hla, hnl, hb, how, hsi, hps⟩
  · simp only [Ending.returned.injEq, Value.tuple.injEq] at he
    have he1 : (Value.slice p n cap) = .slice p' n' cap' ∧ E = E' := by
      have := congrArg Array.toList he
      simpa using this
    obtain ⟨-, rfl⟩ := he1
    exact .inl ⟨h0, p, n, cap, E, rfl, hE.only H4.out, ho.trans H4.out (fun k _ hk => .inr (.inl hk))⟩
  · simp only [Ending.returned.injEq, Value.tuple.injEq] at he
    have he1 : (Value.slice p n cap) = .slice (some ⟨b9, 0, none⟩) flds.length cp9 ∧ E = .nilIface := by
      have := congrArg Array.toList he
      simpa using this
    obtain ⟨hv, rfl⟩ := he1
    rw [hv] at H4 ⊢
    simp only [Value.slice.injEq] at hv
    obtain ⟨rfl, rfl, rfl⟩ := hv
    refine .inr ⟨flds, a9, n9, s9, rest9, r9, { c9 with last := .slice (some ⟨b9, 0, none⟩) flds.length cap }, by9, ix9, ps9, b9, cap, h0, rfl, hs.only H4.out (fun k hk h => by unfold own at hk; omega), hrow.setLastQ how, ?_, rfl, hnl, hb, ?_, hps⟩
    · exact ⟨hfr.only.trans H4.out (fun k _ hk => .inr (.inl hk)), hfr.raw, hfr.rbuf, hfr.idx, hfr.pos, hsi⟩
    · exact ownsRow_only how H4.out (fun k hk hk' => by have := (how.lt k hk).1; omega)
set_option maxHeartbeats 800000 in
/-- FieldPos(0): the line on which the record begins. -/
theorem fpq_calls (g : Nat) (c : CV) (bytes : List UInt8) (ixs t : List Value) (nl : Nat) (col : Int) (w : World) (hrows : Rows5 g c bytes ixs (.int .i64 nl :: .int .i64 col :: t) w) :
    Calls Tryf.prog 29 #[.pointer (some ⟨g + 4, 0, none⟩), .int .i64 0] w fun e w' => e = .returned (.tuple #[.int .i64 (nl : Int), .int .i64 col]) ∧ Quiet w w' := by
  obtain ⟨n, hpos⟩ := hrows.pos
  have hn : 1 ≤ n := by have := hpos.1; simp at this; omega
  obtain ⟨b, cap, hp, -, -⟩ := hpos.form hn
  have d13 := hrows.csv.cell (i := 13) rfl
  rw [hp] at d13 hpos
  have p0 := hpos.cellAt 0 (by omega)
  have p1 := hpos.cellAt 1 (by omega)
  simp only [List.getElem?_cons_zero, List.getElem?_cons_succ] at p0 p1
  have hn1 : (0 : Int) < (n : Int) := by omega
  clear hpos hrows hp
  go_enter Tryf.func29, Tryf.ntmps29
  go_wp2_with fail
  go_quiet (fail)
  go_wp2_with fail
  go_ret2
  exact ⟨rfl, (Quiet.refl w).drewN _⟩
end Go.Proofs.Qxb6614395aFmt
