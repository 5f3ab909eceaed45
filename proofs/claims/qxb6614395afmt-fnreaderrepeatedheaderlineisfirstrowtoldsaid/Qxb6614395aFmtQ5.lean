import Derived.Test.Qxb6614395aFmtQ4
set_option linter.unusedSimpArgs false
set_option linter.unusedVariables false
namespace Go.Proofs.Qxb6614395aFmt
open Go Go.RowKit Go.Deep Go.Extern.Stop Go.Stop Go.Extern

/-- What is still to come while a record is taken apart; m: the bytes and fields so far; f: a bound on the rounds. -/
def RQ (g : Nat) (bE : Addr) (R : QRes) (nl0 a : Nat) (acc : List (List UInt8)) (cur : Option (List UInt8)) (ln : List UInt8) (cnl m f : Nat) (v7 : Value) (w : World) : Prop :=
  (v7 = .nilIface ∧ ∃ s rest r b, Src g (tripA bE) s rest r w ∧ par acc cur ln s rest a b = R ∧ cnl = nl0 + b ∧ (nl0 + b + rest.length ≤ 1000000 ∨ (ln = [] ∧ R = .err)) ∧ m + ln.length + rest.length ≤ 1000001 ∧ ln.length + rest.length + 4000001 < f) ∨
  (∃ N, v7 = tripE N ∧ g + 6 ≤ N ∧ IsC N w ∧ R = .err ∧ m + ln.length ≤ 4000000 ∧ ln.length < f)
section
variable {S : Nat → Prop} {g : Nat} {bE : Addr} {R : QRes} {nl0 a : Nat} {acc acc' : List (List UInt8)} {cur cur' : Option (List UInt8)} {ln ln' : List UInt8} {cnl m m' f f' : Nat} {v7 : Value} {w w' : World}
theorem RQ.only (h : RQ g bE R nl0 a acc cur ln cnl m f v7 w) (ho : Only S w w') (hS : ∀ k, own g k → ¬ S k) : RQ g bE R nl0 a acc cur ln cnl m f v7 w' := by
  rcases h with ⟨h1, s, rest, r, b, h2, h3⟩ | ⟨N, h1, h2, h3, h4⟩
  · exact .inl ⟨h1, s, rest, r, b, h2.only ho hS, h3⟩
  · exact .inr ⟨N, h1, h2, ho.cells _ h3, h4⟩
/-- A step of the taking apart. -/
theorem RQ.step (h : RQ g bE R nl0 a acc cur ln cnl m (f + 1) v7 w)
    (hp : ∀ s rest b, par acc cur ln s rest a b = par acc' cur' ln' s rest a b) (hm : m' + ln'.length ≤ m + ln.length) (hl : ln'.length < ln.length) : RQ g bE R nl0 a acc' cur' ln' cnl m' f v7 w := by
  rcases h with ⟨h1, s, rest, r, b, h2, h3, h4, h5, h6, h7⟩ | ⟨N, h1, h2, h3, h4, h5, h6⟩
  · exact .inl ⟨h1, s, rest, r, b, h2, by rw [← hp]; exact h3, h4, h5.imp id (fun h => by rw [h.1] at hl; simp at hl), by omega, by omega⟩
  · exact .inr ⟨N, h1, h2, h3, h4, by omega, by omega⟩
theorem RQ.more (h : RQ g bE R nl0 a acc cur ln cnl m f v7 w) (hf : f ≤ f') : RQ g bE R nl0 a acc cur ln cnl m f' v7 w := by
  rcases h with ⟨h1, s, rest, r, b, h2, h3, h4, h5, h6, h7⟩ | ⟨N, h1, h2, h3, h4, h5, h6⟩
  · exact .inl ⟨h1, s, rest, r, b, h2, h3, h4, h5, by omega, by omega⟩
  · exact .inr ⟨N, h1, h2, h3, h4, by omega, by omega⟩
/-- The record ends in an error. -/
theorem RQ.bad (h : RQ g bE R nl0 a acc cur ln cnl m f v7 w) (hp : ∀ s rest b, par acc cur ln s rest a b = .err) : R = .err := by
  rcases h with ⟨h1, s, rest, r, b, h2, h3, h4, h5, h6⟩ | ⟨N, h1, h2, h3, h4, h5⟩
  · rw [← h3, hp]
  · exact h4
theorem RQ.bound (h : RQ g bE R nl0 a acc cur ln cnl m f v7 w) : m + ln.length ≤ 4000000 := by
  rcases h with ⟨h1, s, rest, r, b, h2, h3, h4, h5, h6⟩ | ⟨N, h1, h2, h3, h4, h5⟩ <;> omega
theorem RQ.err (h : RQ g bE R nl0 a acc cur ln cnl m f v7 w) : v7 = .nilIface ∨ ∃ N, v7 = tripE N ∧ g + 6 ≤ N ∧ IsC N w ∧ R = .err := by
  rcases h with ⟨h1, s, rest, r, b, h2, h3, h4, h5, h6⟩ | ⟨N, h1, h2, h3, h4, h5⟩
  · exact .inl h1
  · exact .inr ⟨N, h1, h2, h3, h4⟩
end

/-- The first field's position; fl is the line of the field that is being read. -/
def Fst (nl0 a : Nat) (acc : List (List UInt8)) (ps : List Value) (fl : Int) : Prop :=
  ps.length = 2 * acc.length ∧ ((acc = [] ∧ fl = ((nl0 + a : Nat) : Int)) ∨ ∃ col t, ps = .int .i64 ((nl0 + a : Nat) : Int) :: .int .i64 col :: t)
theorem Fst.push {nl0 a : Nat} {acc : List (List UInt8)} {ps : List Value} {fl : Int} (h : Fst nl0 a acc ps fl) (fld : List UInt8) (col : Int) : (ps ++ [Value.int .i64 fl, Value.int .i64 col]).length = 2 * (acc ++ [fld]).length ∧ ∃ col' t, ps ++ [.int .i64 fl, .int .i64 col] = .int .i64 ((nl0 + a : Nat) : Int) :: .int .i64 col' :: t := by
  refine ⟨by rw [List.length_append, List.length_append, h.1]; simp; omega, ?_⟩
  rcases h.2 with ⟨h1, h2⟩ | ⟨col', t, h1⟩
  · have : ps = [] := List.eq_nil_of_length_eq_zero (by rw [h.1, h1]; rfl)
    rw [this, h2]
    exact ⟨col, [], rfl⟩
  · rw [h1]
    exact ⟨col', t ++ [.int .i64 fl, .int .i64 col], rfl⟩

theorem Fst.next {nl0 a : Nat} {acc : List (List UInt8)} {ps : List Value} {fl : Int} (h : Fst nl0 a acc ps fl) (fld : List UInt8) (col pl : Int) : Fst nl0 a (acc ++ [fld]) (ps ++ [Value.int .i64 fl, Value.int .i64 col]) pl :=
  ⟨(h.push fld col).1, .inr (h.push fld col).2⟩

/-- Ahead of a field. -/
def StF (g : Nat) (bE : Addr) (R : QRes) (nl0 a : Nat) (c0 : CV) (w0 : World) (P f : Nat) (v6 v7 : Value) (w : World) : Prop :=
  ∃ (lb lo n cap : Nat) (acc : List (List UInt8)) (ln : List UInt8) (c : CV) (ps : List Value) (pl : Int), v6 = .slice (some ⟨lb, lo, none⟩) n cap ∧ n ≤ cap ∧ ln.length = n ∧ Seg w lb lo ln ∧
    FX g c0 w0 lb P pl c acc.flatten (ixsOf acc) ps w ∧ RQ g bE R nl0 a acc none ln c.nl (acc.flatten.length + acc.length) f v7 w ∧ Fst nl0 a acc ps pl
theorem StF.more {g : Nat} {bE : Addr} {R : QRes} {nl0 a : Nat} {c0 : CV} {w0 : World} {P f f' : Nat} {v6 v7 : Value} {w : World} (h : StF g bE R nl0 a c0 w0 P f v6 v7 w) (hf : f ≤ f') : StF g bE R nl0 a c0 w0 P f' v6 v7 w := by
  obtain ⟨lb, lo, n, cap, acc, ln, c, ps, pl, h1, h2, h3, h4, h5, h6, h7⟩ := h
  exact ⟨lb, lo, n, cap, acc, ln, c, ps, pl, h1, h2, h3, h4, h5, h6.more hf, h7⟩
/-- Inside quotes: the field's own position lies in block FB. -/
def StQ (g : Nat) (bE : Addr) (R : QRes) (nl0 a : Nat) (c0 : CV) (w0 : World) (P FB f : Nat) (v6 v7 : Value) (w : World) : Prop :=
  ∃ (lb lo n cap : Nat) (acc : List (List UInt8)) (cur ln : List UInt8) (c : CV) (ps : List Value) (pl fl : Int), v6 = .slice (some ⟨lb, lo, none⟩) n cap ∧ n ≤ cap ∧ ln.length = n ∧ Seg w lb lo ln ∧
    FX g c0 w0 lb P pl c (acc.flatten ++ cur) (ixsOf acc) ps w ∧ PB g c w0 FB fl w ∧ FB ≠ P ∧ RQ g bE R nl0 a acc (some cur) ln c.nl (acc.flatten.length + cur.length + acc.length) f v7 w ∧ Fst nl0 a acc ps fl
/-- Behind the field loop. -/
def EndQ (g : Nat) (bE : Addr) (R : QRes) (nl0 : Nat) (c0 : CV) (w0 : World) (P : Nat) (v7 v8 : Value) (w : World) : Prop :=
  ∃ (lb : Nat) (pl : Int) (flds : List (List UInt8)) (extra : List UInt8) (c : CV) (ps : List Value), FX g c0 w0 lb P pl c (flds.flatten ++ extra) (ixsOf flds) ps w ∧ flds.length ≤ 4000001 ∧
  ((v7 = .nilIface ∧ v8 = .nilIface ∧ extra = [] ∧ flds ≠ [] ∧ ∃ s rest r a b, Src g (tripA bE) s rest r w ∧ R = .ok flds a b s rest ∧ c.nl = nl0 + b ∧ nl0 + b + rest.length ≤ 1000000 ∧ ∃ col t, ps = .int .i64 ((nl0 + a : Nat) : Int) :: .int .i64 col :: t) ∨
   (R = .err ∧ v8 = .nilIface ∧ ∃ N, v7 = tripE N ∧ g + 6 ≤ N ∧ IsC N w) ∨
   (R = .err ∧ ∃ q, v8 = .iface 108 q))
/-- The record is whole. -/
theorem endQ_ok {g : Nat} {bE : Addr} {R : QRes} {nl0 a : Nat} {c0 c : CV} {w0 w : World} {P lb : Nat} {pl : Int} {acc : List (List UInt8)} {cur : Option (List UInt8)} {ln fld : List UInt8} {ps : List Value} {m f : Nat} {v7 : Value}
    (hF : FX g c0 w0 lb P pl c (acc ++ [fld]).flatten (ixsOf (acc ++ [fld])) ps w) (hR : RQ g bE R nl0 a acc cur ln c.nl m f v7 w) (hp : ∀ s rest b, par acc cur ln s rest a b = .ok (acc ++ [fld]) a b s rest) (hm : acc.length ≤ m)
    (hps : ∃ col t, ps = .int .i64 ((nl0 + a : Nat) : Int) :: .int .i64 col :: t) : EndQ g bE R nl0 c0 w0 P v7 .nilIface w := by
  refine ⟨lb, pl, acc ++ [fld], [], c, ps, by rw [List.append_nil]; exact hF, by rw [List.length_append]; have := hR.bound; simp; omega, ?_⟩
  rcases hR with ⟨h1, s, rest, r, b, h2, h3, h4, h5, h6⟩ | ⟨N, h1, h2, h3, h4, h5⟩
  · have h9 : R = .ok (acc ++ [fld]) a b s rest := by rw [← h3, hp]
    exact .inl ⟨h1, rfl, rfl, by simp, s, rest, r, a, b, h2, h9, h4, h5.resolve_right (fun h => by rw [h9] at h; cases h.2), hps⟩
  · exact .inr (.inl ⟨h4, rfl, N, h1, h2, h3⟩)

/-- What holds all along. -/
structure Env (F : Interp) (g : Nat) (bE bF : Addr) (c0 : CV) (w0 : World) : Prop where
  hF : F.answers w0.tape
  hS : Sent g bE bF w0
  ge : ∀ k, ownR g c0 k → g ≤ k
  g12 : 12 < g
  tabs : Lib.Utf8Tabs 11 12 w0
  e2 : ∃ t x, w0.cell? ⟨2, 0, none⟩ = some (.iface t x)
  e3 : ∃ t x, w0.cell? ⟨3, 0, none⟩ = some (.iface t x)
theorem tabs_only {S : Nat → Prop} {w w' : World} (h : Lib.Utf8Tabs 11 12 w) (ho : Only S w w') (h1 : ¬ S 11) (h2 : ¬ S 12) : Lib.Utf8Tabs 11 12 w' :=
  ⟨fun c hc => ho.cell (h.1 c hc) h1, fun i hi => ⟨ho.cell (h.2 i hi).1 h2, ho.cell (h.2 i hi).2 h2⟩⟩
section
variable {F : Interp} {g : Nat} {bE bF : Addr} {c0 : CV} {w0 w : World}
theorem Env.no (E : Env F g bE bF c0 w0) (k : Nat) (hk : k < 13) : ¬ ownR g c0 k := fun h => by have := E.ge k h; have := E.g12; omega
theorem Env.sent (E : Env F g bE bF c0 w0) (ho : Only (ownR g c0) w0 w) : Sent g bE bF w := E.hS.only ho (fun k hk h => by have := E.ge k h; omega)
theorem Env.ans (E : Env F g bE bF c0 w0) (ho : Only (ownR g c0) w0 w) : F.answers w.tape := by rw [ho.tape]; exact E.hF
theorem Env.tab (E : Env F g bE bF c0 w0) (ho : Only (ownR g c0) w0 w) : Lib.Utf8Tabs 11 12 w := tabs_only E.tabs ho (E.no _ (by decide)) (E.no _ (by decide))
theorem Env.err2 (E : Env F g bE bF c0 w0) (ho : Only (ownR g c0) w0 w) : ∃ t x, w.cell? ⟨2, 0, none⟩ = some (.iface t x) := by
  obtain ⟨t, x, h⟩ := E.e2
  exact ⟨t, x, ho.cell h (E.no _ (by decide))⟩
theorem Env.err3 (E : Env F g bE bF c0 w0) (ho : Only (ownR g c0) w0 w) : ∃ t x, w.cell? ⟨3, 0, none⟩ = some (.iface t x) := by
  obtain ⟨t, x, h⟩ := E.e3
  exact ⟨t, x, ho.cell h (E.no _ (by decide))⟩
end

section
variable {g : Nat} {c0 c : CV} {w0 w w1 : World} {lb P lo : Nat} {pl : Int} {bytes ln : List UInt8} {ixs ps : List Value}
theorem FX.segRbuf (h : FX g c0 w0 lb P pl c bytes ixs ps w) (hs : Seg w lb lo ln) (ho : Only (fun k => k = g + 4 ∨ c.rbuf.ownBlock = some k) w w1) : Seg w1 lb lo ln :=
  h.seg hs ho (fun k hk hk' => by
    rcases hk' with hk' | hk'
    · rcases hk with hk | hk
      · omega
      · obtain ⟨n9, x9, h9⟩ := h.rows.raw
        have := (h9.lt k hk).1
        omega
    · rcases hk with hk | hk
      · have := (h.rows.rbuf.lt k hk').1; omega
      · exact h.rows.apart k hk hk')
theorem FX.segIdx (h : FX g c0 w0 lb P pl c bytes ixs ps w) (hs : Seg w lb lo ln) (ho : Only (fun k => k = g + 4 ∨ c.idx.ownBlock = some k) w w1) : Seg w1 lb lo ln :=
  h.seg hs ho (fun k hk hk' => by
    obtain ⟨n9, x9, h9⟩ := h.rows.raw
    rcases hk' with hk' | hk'
    · rcases hk with hk | hk
      · omega
      · have := (h9.lt k hk).1
        omega
    · rcases hk with hk | hk
      · have := (h.rows.idx.lt k hk').1; omega
      · exact apart_of h9 h.rows.idx (by decide) k hk hk')
theorem FX.segPos (h : FX g c0 w0 lb P pl c bytes ixs ps w) (hs : Seg w lb lo ln) (ho : Only (fun k => k = g + 4 ∨ c.pos.ownBlock = some k) w w1) : Seg w1 lb lo ln :=
  h.seg hs ho (fun k hk hk' => by
    obtain ⟨n9, x9, h9⟩ := h.rows.raw
    obtain ⟨n8, h8⟩ := h.rows.pos
    rcases hk' with hk' | hk'
    · rcases hk with hk | hk
      · omega
      · have := (h9.lt k hk).1
        omega
    · rcases hk with hk | hk
      · have := (h8.lt k hk').1; omega
      · exact apart_of h9 h8 (by decide) k hk hk')
theorem FX.segP (h : FX g c0 w0 lb P pl c bytes ixs ps w) (hs : Seg w lb lo ln) (ho : Only (fun k => k = P) w w1) : Seg w1 lb lo ln :=
  h.seg hs ho (fun k hk hk' => by
    subst hk'
    obtain ⟨n9, x9, h9⟩ := h.rows.raw
    obtain ⟨col9, hp9⟩ := h.p.p
    have := h.p.pg
    rcases hk with hk | hk
    · omega
    · exact sat_apart hp9 h9 (by decide) hk)
theorem FX.segNew (h : FX g c0 w0 lb P pl c bytes ixs ps w) (hs : Seg w lb lo ln) (ho : Only (fun _ => False) w w1) : Seg w1 lb lo ln := h.seg hs ho (fun _ _ h => h)
/-- The source is apart from what is written while a record is taken apart. -/
theorem FX.awayRbuf (h : FX g c0 w0 lb P pl c bytes ixs ps w) : ∀ k, own g k → ¬ (k = g + 4 ∨ c.rbuf.ownBlock = some k) := fun k hk hk' => by
  rcases hk' with hk' | hk'
  · unfold own at hk; omega
  · have := (h.rows.rbuf.lt k hk').1; unfold own at hk; omega
theorem FX.awayIdx (h : FX g c0 w0 lb P pl c bytes ixs ps w) : ∀ k, own g k → ¬ (k = g + 4 ∨ c.idx.ownBlock = some k) := fun k hk hk' => by
  rcases hk' with hk' | hk'
  · unfold own at hk; omega
  · have := (h.rows.idx.lt k hk').1; unfold own at hk; omega
theorem FX.awayPos (h : FX g c0 w0 lb P pl c bytes ixs ps w) : ∀ k, own g k → ¬ (k = g + 4 ∨ c.pos.ownBlock = some k) := fun k hk hk' => by
  obtain ⟨n8, h8⟩ := h.rows.pos
  rcases hk' with hk' | hk'
  · unfold own at hk; omega
  · have := (h8.lt k hk').1; unfold own at hk; omega
theorem FX.awayP (h : FX g c0 w0 lb P pl c bytes ixs ps w) : ∀ k, own g k → ¬ (k = P) := fun k hk hk' => by
  have := h.p.pg
  unfold own at hk; omega
end

/-- A slice from place j on: where it lies. -/
theorem cut_at {w : World} {lb lo n cap j : Nat} {ln : List UInt8} (hs : Seg w lb lo ln) (hn : ln.length = n) (hc : n ≤ cap) (hj : j ≤ n) : ∃ o2, (if cap = j then some (⟨lb, lo, none⟩ : Addr) else some ⟨lb, lo + j, none⟩) = some ⟨lb, o2, none⟩ ∧ Seg w lb o2 (ln.drop j) := by
  by_cases h4 : cap = j
  · refine ⟨lo, if_pos h4, ?_⟩
    have : ln.drop j = [] := List.drop_eq_nil_of_le (by omega)
    rw [this]
    intro i hi; simp at hi
  · exact ⟨lo + j, if_neg h4, hs.drop j⟩
theorem flat_snoc (acc : List (List UInt8)) (cur x : List UInt8) : acc.flatten ++ cur ++ x = acc.flatten ++ (cur ++ x) := List.append_assoc _ _ _
theorem flat_last (acc : List (List UInt8)) (fld : List UInt8) : acc.flatten ++ fld = (acc ++ [fld]).flatten := by simp
theorem ixs_last (acc : List (List UInt8)) (fld : List UInt8) : ixsOf acc ++ [Value.int .i64 ((acc.flatten ++ fld).length : Int)] = ixsOf (acc ++ [fld]) := by
  rw [ixsOf_snoc, ← flat_last]
end Go.Proofs.Qxb6614395aFmt
