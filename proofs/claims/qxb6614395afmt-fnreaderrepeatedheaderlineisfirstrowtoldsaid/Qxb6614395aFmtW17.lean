import Derived.Test.Qxb6614395aFmtW15
set_option linter.unusedSimpArgs false
set_option linter.unusedVariables false
namespace Go.Proofs.Qxb6614395aFmt
open Go Go.RowKit Go.Deep Go.Extern.Stop Go.Stop Go.Extern

/-- Where each field ends. -/
def ixsOf (acc : List (List UInt8)) : List Value := (List.range acc.length).map fun i => Value.int .i64 (((acc.take (i + 1)).flatten.length : Nat) : Int)
theorem ixsOf_length (acc : List (List UInt8)) : (ixsOf acc).length = acc.length := by simp [ixsOf]
theorem ixsOf_snoc (acc : List (List UInt8)) (f : List UInt8) : ixsOf (acc ++ [f]) = ixsOf acc ++ [Value.int .i64 (((acc ++ [f]).flatten.length : Nat) : Int)] := by
  unfold ixsOf
  rw [List.length_append, List.length_singleton, List.range_succ, List.map_append]
  congr 1
  · apply List.map_congr_left
    intro i hi
    rw [List.mem_range] at hi
    rw [List.take_append_of_le_length (by omega)]
  · rw [List.map_singleton, List.take_of_length_le (by simp)]

/-- append in a drawn region, its run known. -/
theorem step_append_run {ops : Array Oper} {o : Oper} {a : Act} {w : World} {K : Act → World → Prop} {Q : Exit → Act → World → Prop} {E : Prop} (hgd : o.guard = none) (s x : Operand) (t : TypeId)
    (ho : o.op = .call { callee := .builtin .append, args := #[s, x], argTypes := #[t, t] }) (v u : Value) (hs : a.eval s = v) (hx : a.eval x = u) (v' : Value) (w' : World)
    (hr : (Builtin.append_ #[t, t] o.type #[v, u]).run Tryf.prog w = .ok v' w') (h : K (a.put o.dst v') w') :
    if Region.wanted o (yielded ops a.tmps) = true then Oper.wp Tryf.prog o a w K Q else E := by
  have hw : Region.wanted o (yielded ops a.tmps) = true := by simp [Region.wanted, hgd]
  rw [if_pos hw]
  unfold Oper.wp execOp
  simp only [ho, resolve, invoke, builtin, Sem.run_bind, Sem.run_pure, Result.andThen_ok, List.map_toArray, List.map_cons, List.map_nil, hs, hx, hr]
  exact h

/-- What is known of the source while a record is taken apart. -/
def RestP (g : Nat) (bE : Addr) (R : RRes) (flds : List (List UInt8)) (nl : Nat) (v7 : Value) (w : World) : Prop :=
  (v7 = .nilIface ∧ ∃ s rest r, Src g (tripA bE) s rest r w ∧ R = .ok flds nl s rest ∧ nl + rest.length ≤ 1000000 ∧ 34 ∉ rest) ∨ (∃ N, v7 = tripE N ∧ g + 6 ≤ N ∧ IsC N w ∧ R = .err)
theorem RestP.only {S : Nat → Prop} {g : Nat} {bE : Addr} {R : RRes} {flds : List (List UInt8)} {nl : Nat} {v7 : Value} {w w' : World} (h : RestP g bE R flds nl v7 w) (ho : Only S w w') (hS : ∀ k, own g k → ¬ S k) : RestP g bE R flds nl v7 w' := by
  rcases h with ⟨h1, s, rest, r, h2, h3⟩ | ⟨N, h1, h2, h3, h4⟩
  · exact .inl ⟨h1, s, rest, r, h2.only ho hS, h3⟩
  · exact .inr ⟨N, h1, h2, ho.cells _ h3, h4⟩

/-- The state while a record is taken apart: the line's rest is ln. -/
structure FS (g : Nat) (bE : Addr) (R : RRes) (flds : List (List UInt8)) (c0 : CV) (w0 : World) (v7 : Value) (nl lb P : Nat) (c : CV) (bytes : List UInt8) (ixs ps : List Value) (w : World) : Prop where
  rows : Rows5 g c bytes ixs ps w
  frm : From g c0 c w0 w
  hnl : c.nl = nl
  hlast : c.last = c0.last
  p : ∃ col : Int, SAt P 85 [.int .i64 nl, .int .i64 col] w
  pg : g + 6 ≤ P
  pp : c.pos.ownBlock ≠ some P
  pw : w0.heap.size ≤ P
  hlb : lb = g + 3 ∨ c.raw.ownBlock = some lb
  rest : RestP g bE R flds nl v7 w

theorem sat_apart {w : World} {P e' size n' base : Nat} {t : TypeId} {cs : List Value} {v : Value} {ys : List Value} (h : SAt P t cs w) (h' : w.ownsRow base e' size v n' ys) (he : t ≠ e') : v.ownBlock ≠ some P := by
  intro hk
  rcases h'.2 with ⟨h4, -⟩ | ⟨b', cap', cur', h4, -, h6, -⟩
  · rw [h4] at hk; cases hk
  · rw [h4] at hk
    simp only [Value.ownBlock, Option.some.injEq] at hk
    subst hk
    unfold SAt at h
    rw [h] at h6
    simp only [Option.some.injEq, Obj.cells.injEq] at h6
    exact he h6.2.1

section
variable {g : Nat} {bE : Addr} {R : RRes} {flds : List (List UInt8)} {c0 c : CV} {w0 w wX w1 : World} {v7 v : Value} {nl lb P : Nat} {bytes l : List UInt8} {ixs ps : List Value}

/-- The line stays where it is. -/
theorem FS.seg (h : FS g bE R flds c0 w0 v7 nl lb P c bytes ixs ps w) {lo : Nat} {ln : List UInt8} (hs : Seg w lb lo ln) {S : Nat → Prop} (ho : Only S w w1) (hS : ∀ k, (k = g + 3 ∨ c.raw.ownBlock = some k) → ¬ S k) : Seg w1 lb lo ln := by
  intro i hi
  have hc := hs i hi
  rw [World.cell?_of_block (w := w) (ho.block _ (World.block_lt_of_cell? w _ hc) (hS _ h.hlb))]
  exact hc

theorem FS.appRbuf (h : FS g bE R flds c0 w0 v7 nl lb P c bytes ixs ps w) (hX : Only (fun _ => False) w wX) (hg : Grew c.rbuf wX v w1) (ho : w1.ownsRow (g + 6) 5 1 v (bytes.length + l.length) (bcells bytes ++ bcells l)) :
    FS g bE R flds c0 w0 v7 nl lb P { c with rbuf := v } (bytes ++ l) ixs ps (w1.setCell ⟨g + 4, 11, none⟩ v) ∧ Only (fun k => k = g + 4 ∨ c.rbuf.ownBlock = some k) w (w1.setCell ⟨g + 4, 11, none⟩ v) := by
  have hW : Only (fun k => k = g + 4 ∨ c.rbuf.ownBlock = some k) w (w1.setCell ⟨g + 4, 11, none⟩ v) := (hg.only (hX.mono (fun k _ hk => hk.elim)) (fun k hk => .inl (.inr hk))).setCell (.inl (.inl rfl)) _
  obtain ⟨col, hp⟩ := h.p
  have hb : ∀ k, c.rbuf.ownBlock = some k → g + 6 ≤ k := fun k hk => (h.rows.rbuf.lt k hk).1
  have hpg := h.pg
  refine ⟨⟨h.rows.appRbuf hX hg ho, h.frm.step (hW.mono (fun k _ hk => ?_)) rfl (h.frm.rbuf.grew hg (Nat.le_trans h.frm.only.size hX.size)) h.frm.idx h.frm.pos h.frm.last, h.hnl, h.hlast, ⟨col, hW.sat hp (fun hk => ?_)⟩, h.pg, h.pp, h.pw, h.hlb, h.rest.only hW (fun k hk hk' => ?_)⟩, hW⟩
  · rcases hk with hk | hk
    · exact .inr (.inl hk)
    · exact .inr (.inr (.inr (.inl hk)))
  · rcases hk with hk | hk
    · omega
    · exact sat_apart hp h.rows.rbuf (by decide) hk
  · rcases hk' with hk' | hk'
    · unfold own at hk; omega
    · have := hb k hk'; unfold own at hk; omega

theorem FS.appIdx {x : Value} (h : FS g bE R flds c0 w0 v7 nl lb P c bytes ixs ps w) (hX : Only (fun _ => False) w wX) (hg : Grew c.idx wX v w1) (ho : w1.ownsRow (g + 6) 3 1 v (ixs.length + 1) (ixs ++ [x])) :
    FS g bE R flds c0 w0 v7 nl lb P { c with idx := v } bytes (ixs ++ [x]) ps (w1.setCell ⟨g + 4, 12, none⟩ v) ∧ Only (fun k => k = g + 4 ∨ c.idx.ownBlock = some k) w (w1.setCell ⟨g + 4, 12, none⟩ v) := by
  have hW : Only (fun k => k = g + 4 ∨ c.idx.ownBlock = some k) w (w1.setCell ⟨g + 4, 12, none⟩ v) := (hg.only (hX.mono (fun k _ hk => hk.elim)) (fun k hk => .inl (.inr hk))).setCell (.inl (.inl rfl)) _
  obtain ⟨col, hp⟩ := h.p
  have hb : ∀ k, c.idx.ownBlock = some k → g + 6 ≤ k := fun k hk => (h.rows.idx.lt k hk).1
  have hpg := h.pg
  refine ⟨⟨h.rows.appIdx hX hg ho, h.frm.step (hW.mono (fun k _ hk => ?_)) rfl h.frm.rbuf (h.frm.idx.grew hg (Nat.le_trans h.frm.only.size hX.size)) h.frm.pos h.frm.last, h.hnl, h.hlast, ⟨col, hW.sat hp (fun hk => ?_)⟩, h.pg, h.pp, h.pw, h.hlb, h.rest.only hW (fun k hk hk' => ?_)⟩, hW⟩
  · rcases hk with hk | hk
    · exact .inr (.inl hk)
    · exact .inr (.inr (.inr (.inr (.inl hk))))
  · rcases hk with hk | hk
    · omega
    · exact sat_apart hp h.rows.idx (by decide) hk
  · rcases hk' with hk' | hk'
    · unfold own at hk; omega
    · have := hb k hk'; unfold own at hk; omega

theorem FS.appPos {x y : Value} {n : Nat} (h : FS g bE R flds c0 w0 v7 nl lb P c bytes ixs ps w) (hX : Only (fun _ => False) w wX) (hg : Grew c.pos wX v w1) (ho : w1.ownsRow (g + 6) 85 2 v (n + 1) (ps ++ [x, y])) :
    FS g bE R flds c0 w0 v7 nl lb P { c with pos := v } bytes ixs (ps ++ [x, y]) (w1.setCell ⟨g + 4, 13, none⟩ v) ∧ Only (fun k => k = g + 4 ∨ c.pos.ownBlock = some k) w (w1.setCell ⟨g + 4, 13, none⟩ v) := by
  have hW : Only (fun k => k = g + 4 ∨ c.pos.ownBlock = some k) w (w1.setCell ⟨g + 4, 13, none⟩ v) := (hg.only (hX.mono (fun k _ hk => hk.elim)) (fun k hk => .inl (.inr hk))).setCell (.inl (.inl rfl)) _
  obtain ⟨col, hp⟩ := h.p
  obtain ⟨n5, hpos⟩ := h.rows.pos
  have hb : ∀ k, c.pos.ownBlock = some k → g + 6 ≤ k := fun k hk => (hpos.lt k hk).1
  have hpg := h.pg
  refine ⟨⟨h.rows.appPos hX hg ho, h.frm.step (hW.mono (fun k _ hk => ?_)) rfl h.frm.rbuf h.frm.idx (h.frm.pos.grew hg (Nat.le_trans h.frm.only.size hX.size)) h.frm.last, h.hnl, h.hlast, ⟨col, hW.sat hp (fun hk => ?_)⟩, h.pg, ?_, h.pw, h.hlb, h.rest.only hW (fun k hk hk' => ?_)⟩, hW⟩
  · rcases hk with hk | hk
    · exact .inr (.inl hk)
    · exact .inr (.inr (.inr (.inr (.inr (.inl hk)))))
  · rcases hk with hk | hk
    · omega
    · exact h.pp hk
  · simp only []
    rcases hg.loc with h' | h'
    · rw [h']; exact h.pp
    · rw [h']
      intro hk
      simp at hk
      have := hp.lt
      have := hX.size
      omega
  · rcases hk' with hk' | hk'
    · unfold own at hk; omega
    · have := hb k hk'; unfold own at hk; omega

theorem FS.setCol (h : FS g bE R flds c0 w0 v7 nl lb P c bytes ixs ps w) (col' : Int) : FS g bE R flds c0 w0 v7 nl lb P c bytes ixs ps (w.setCell ⟨P, 1, none⟩ (.int .i64 col')) ∧ Only (fun k => k = P) w (w.setCell ⟨P, 1, none⟩ (.int .i64 col')) := by
  have hW : Only (fun k => k = P) w (w.setCell ⟨P, 1, none⟩ (.int .i64 col')) := (Only.refl (fun k => k = P) _).setCell (.inl rfl) _
  obtain ⟨col, hp⟩ := h.p
  obtain ⟨n1, x1, h1⟩ := h.rows.raw
  obtain ⟨n3, x3, h3⟩ := h.rows.last
  have hpg := h.pg
  refine ⟨⟨h.rows.only hW ?_, ⟨h.frm.only.setCell (.inr h.pw) _, h.frm.raw, h.frm.rbuf, h.frm.idx, h.frm.pos, h.frm.last⟩, h.hnl, h.hlast, ⟨col', hp.set' 1 _ (by simp)⟩, h.pg, h.pp, h.pw, h.hlb, h.rest.only hW (fun k hk hk' => by unfold own at hk; omega)⟩, hW⟩
  intro k hk hk'
  subst hk'
  rcases hk with hk | hk | hk | hk | hk | hk
  · omega
  · exact sat_apart hp h1 (by decide) hk
  · exact sat_apart hp h.rows.rbuf (by decide) hk
  · exact sat_apart hp h.rows.idx (by decide) hk
  · exact h.pp hk
  · exact sat_apart hp h3 (by decide) hk
end
end Go.Proofs.Qxb6614395aFmt
