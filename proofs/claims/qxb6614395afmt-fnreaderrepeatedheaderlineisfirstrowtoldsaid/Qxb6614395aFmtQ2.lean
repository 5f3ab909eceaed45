import Derived.Test.Qxb6614395aFmtW19
import Derived.Test.Qxb6614395aFmtQ1
set_option linter.unusedSimpArgs false
set_option linter.unusedVariables false
namespace Go.Proofs.Qxb6614395aFmt
open Go Go.RowKit Go.Deep Go.Extern.Stop Go.Stop Go.Extern

theorem nle_eq (l : List UInt8) : nle l = nlOf l := rfl

/-- A position that lies in a block of its own. -/
structure PB (g : Nat) (c : CV) (w0 : World) (P : Nat) (pl : Int) (w : World) : Prop where
  p : ∃ col : Int, SAt P 85 [.int .i64 pl, .int .i64 col] w
  pg : g + 6 ≤ P
  pp : c.pos.ownBlock ≠ some P
  pw : w0.heap.size ≤ P
theorem PB.only {S : Nat → Prop} {g : Nat} {c c' : CV} {w0 w w' : World} {P : Nat} {pl : Int} (h : PB g c w0 P pl w) (ho : Only S w w') (hS : ¬ S P) (hc : c'.pos.ownBlock ≠ some P) : PB g c' w0 P pl w' := by
  obtain ⟨col, hp⟩ := h.p
  exact ⟨⟨col, ho.sat hp hS⟩, h.pg, hc, h.pw⟩

/-- The state while a record is taken apart: the line's rest lies in block lb; the position in block P. -/
structure FX (g : Nat) (c0 : CV) (w0 : World) (lb P : Nat) (pl : Int) (c : CV) (bytes : List UInt8) (ixs ps : List Value) (w : World) : Prop where
  rows : Rows5 g c bytes ixs ps w
  frm : From g c0 c w0 w
  hlast : c.last = c0.last
  p : PB g c w0 P pl w
  hlb : lb = g + 3 ∨ c.raw.ownBlock = some lb

section
variable {g : Nat} {c0 c : CV} {w0 w wX w1 : World} {v : Value} {lb P F : Nat} {pl fl : Int} {bytes l : List UInt8} {ixs ps : List Value}

/-- The line stays where it is. -/
theorem FX.seg (h : FX g c0 w0 lb P pl c bytes ixs ps w) {lo : Nat} {ln : List UInt8} (hs : Seg w lb lo ln) {S : Nat → Prop} (ho : Only S w w1) (hS : ∀ k, (k = g + 3 ∨ c.raw.ownBlock = some k) → ¬ S k) : Seg w1 lb lo ln := by
  intro i hi
  have hc := hs i hi
  rw [World.cell?_of_block (w := w) (ho.block _ (World.block_lt_of_cell? w _ hc) (hS _ h.hlb))]
  exact hc

theorem FX.appRbuf (h : FX g c0 w0 lb P pl c bytes ixs ps w) (hX : Only (fun _ => False) w wX) (hg : Grew c.rbuf wX v w1) (ho : w1.ownsRow (g + 6) 5 1 v (bytes.length + l.length) (bcells bytes ++ bcells l)) :
    FX g c0 w0 lb P pl { c with rbuf := v } (bytes ++ l) ixs ps (w1.setCell ⟨g + 4, 11, none⟩ v) ∧ Only (fun k => k = g + 4 ∨ c.rbuf.ownBlock = some k) w (w1.setCell ⟨g + 4, 11, none⟩ v) := by
  have hW : Only (fun k => k = g + 4 ∨ c.rbuf.ownBlock = some k) w (w1.setCell ⟨g + 4, 11, none⟩ v) := (hg.only (hX.mono (fun k _ hk => hk.elim)) (fun k hk => .inl (.inr hk))).setCell (.inl (.inl rfl)) _
  obtain ⟨col, hp⟩ := h.p.p
  have hb : ∀ k, c.rbuf.ownBlock = some k → g + 6 ≤ k := fun k hk => (h.rows.rbuf.lt k hk).1
  have hpg := h.p.pg
  refine ⟨⟨h.rows.appRbuf hX hg ho, h.frm.step (hW.mono (fun k _ hk => ?_)) rfl (h.frm.rbuf.grew hg (Nat.le_trans h.frm.only.size hX.size)) h.frm.idx h.frm.pos h.frm.last, h.hlast, h.p.only hW (fun hk => ?_) h.p.pp, h.hlb⟩, hW⟩
  · rcases hk with hk | hk
    · exact .inr (.inl hk)
    · exact .inr (.inr (.inr (.inl hk)))
  · rcases hk with hk | hk
    · omega
    · exact sat_apart hp h.rows.rbuf (by decide) hk
theorem PB.appRbuf (h : PB g c w0 F fl w) (hr : Rows5 g c bytes ixs ps w) {w' : World} (ho : Only (fun k => k = g + 4 ∨ c.rbuf.ownBlock = some k) w w') (v : Value) : PB g { c with rbuf := v } w0 F fl w' := by
  have hpg := h.pg
  obtain ⟨col, hp⟩ := h.p
  refine h.only ho (fun hk => ?_) h.pp
  rcases hk with hk | hk
  · omega
  · exact sat_apart hp hr.rbuf (by decide) hk

theorem FX.appIdx {x : Value} (h : FX g c0 w0 lb P pl c bytes ixs ps w) (hX : Only (fun _ => False) w wX) (hg : Grew c.idx wX v w1) (ho : w1.ownsRow (g + 6) 3 1 v (ixs.length + 1) (ixs ++ [x])) :
    FX g c0 w0 lb P pl { c with idx := v } bytes (ixs ++ [x]) ps (w1.setCell ⟨g + 4, 12, none⟩ v) ∧ Only (fun k => k = g + 4 ∨ c.idx.ownBlock = some k) w (w1.setCell ⟨g + 4, 12, none⟩ v) := by
  have hW : Only (fun k => k = g + 4 ∨ c.idx.ownBlock = some k) w (w1.setCell ⟨g + 4, 12, none⟩ v) := (hg.only (hX.mono (fun k _ hk => hk.elim)) (fun k hk => .inl (.inr hk))).setCell (.inl (.inl rfl)) _
  obtain ⟨col, hp⟩ := h.p.p
  have hb : ∀ k, c.idx.ownBlock = some k → g + 6 ≤ k := fun k hk => (h.rows.idx.lt k hk).1
  have hpg := h.p.pg
  refine ⟨⟨h.rows.appIdx hX hg ho, h.frm.step (hW.mono (fun k _ hk => ?_)) rfl h.frm.rbuf (h.frm.idx.grew hg (Nat.le_trans h.frm.only.size hX.size)) h.frm.pos h.frm.last, h.hlast, h.p.only hW (fun hk => ?_) h.p.pp, h.hlb⟩, hW⟩
  · rcases hk with hk | hk
    · exact .inr (.inl hk)
    · exact .inr (.inr (.inr (.inr (.inl hk))))
  · rcases hk with hk | hk
    · omega
    · exact sat_apart hp h.rows.idx (by decide) hk
theorem PB.appIdx (h : PB g c w0 F fl w) (hr : Rows5 g c bytes ixs ps w) {w' : World} (ho : Only (fun k => k = g + 4 ∨ c.idx.ownBlock = some k) w w') (v : Value) : PB g { c with idx := v } w0 F fl w' := by
  have hpg := h.pg
  obtain ⟨col, hp⟩ := h.p
  refine h.only ho (fun hk => ?_) h.pp
  rcases hk with hk | hk
  · omega
  · exact sat_apart hp hr.idx (by decide) hk

theorem FX.appPos {x y : Value} {n : Nat} (h : FX g c0 w0 lb P pl c bytes ixs ps w) (hX : Only (fun _ => False) w wX) (hg : Grew c.pos wX v w1) (ho : w1.ownsRow (g + 6) 85 2 v (n + 1) (ps ++ [x, y])) :
    FX g c0 w0 lb P pl { c with pos := v } bytes ixs (ps ++ [x, y]) (w1.setCell ⟨g + 4, 13, none⟩ v) ∧ Only (fun k => k = g + 4 ∨ c.pos.ownBlock = some k) w (w1.setCell ⟨g + 4, 13, none⟩ v) := by
  have hW : Only (fun k => k = g + 4 ∨ c.pos.ownBlock = some k) w (w1.setCell ⟨g + 4, 13, none⟩ v) := (hg.only (hX.mono (fun k _ hk => hk.elim)) (fun k hk => .inl (.inr hk))).setCell (.inl (.inl rfl)) _
  obtain ⟨col, hp⟩ := h.p.p
  obtain ⟨n5, hpos⟩ := h.rows.pos
  have hb : ∀ k, c.pos.ownBlock = some k → g + 6 ≤ k := fun k hk => (hpos.lt k hk).1
  have hpg := h.p.pg
  refine ⟨⟨h.rows.appPos hX hg ho, h.frm.step (hW.mono (fun k _ hk => ?_)) rfl h.frm.rbuf h.frm.idx (h.frm.pos.grew hg (Nat.le_trans h.frm.only.size hX.size)) h.frm.last, h.hlast, h.p.only hW (fun hk => ?_) ?_, h.hlb⟩, hW⟩
  · rcases hk with hk | hk
    · exact .inr (.inl hk)
    · exact .inr (.inr (.inr (.inr (.inr (.inl hk)))))
  · rcases hk with hk | hk
    · omega
    · exact h.p.pp hk
  · simp only []
    rcases hg.loc with h' | h'
    · rw [h']; exact h.p.pp
    · rw [h']
      intro hk
      simp at hk
      have := hp.lt
      have := hX.size
      omega

/-- The position's cells are written. -/
theorem FX.setPos (h : FX g c0 w0 lb P pl c bytes ixs ps w) {w' : World} (hW : Only (fun k => k = P) w w') {pl' : Int} (hs : ∃ col : Int, SAt P 85 [.int .i64 pl', .int .i64 col] w') : FX g c0 w0 lb P pl' c bytes ixs ps w' := by
  obtain ⟨col, hp⟩ := h.p.p
  obtain ⟨n1, x1, h1⟩ := h.rows.raw
  obtain ⟨n3, x3, h3⟩ := h.rows.last
  have hpg := h.p.pg
  have hpw := h.p.pw
  refine ⟨h.rows.only hW ?_, ⟨h.frm.only.trans hW (fun k hk h => by omega), h.frm.raw, h.frm.rbuf, h.frm.idx, h.frm.pos, h.frm.last⟩, h.hlast, ⟨hs, h.p.pg, h.p.pp, h.p.pw⟩, h.hlb⟩
  intro k hk hk'
  subst hk'
  rcases hk with hk | hk | hk | hk | hk | hk
  · omega
  · exact sat_apart hp h1 (by decide) hk
  · exact sat_apart hp h.rows.rbuf (by decide) hk
  · exact sat_apart hp h.rows.idx (by decide) hk
  · exact h.p.pp hk
  · exact sat_apart hp h3 (by decide) hk
theorem FX.setCol (h : FX g c0 w0 lb P pl c bytes ixs ps w) (col' : Int) : FX g c0 w0 lb P pl c bytes ixs ps (w.setCell ⟨P, 1, none⟩ (.int .i64 col')) ∧ Only (fun k => k = P) w (w.setCell ⟨P, 1, none⟩ (.int .i64 col')) := by
  have hW : Only (fun k => k = P) w (w.setCell ⟨P, 1, none⟩ (.int .i64 col')) := (Only.refl (fun k => k = P) _).setCell (.inl rfl) _
  obtain ⟨col, hp⟩ := h.p.p
  exact ⟨h.setPos hW ⟨col', hp.set' 1 _ (by simp)⟩, hW⟩
theorem FX.setLine (h : FX g c0 w0 lb P pl c bytes ixs ps w) (pl' : Int) : FX g c0 w0 lb P pl' c bytes ixs ps (w.setCell ⟨P, 0, none⟩ (.int .i64 pl')) ∧ Only (fun k => k = P) w (w.setCell ⟨P, 0, none⟩ (.int .i64 pl')) := by
  have hW : Only (fun k => k = P) w (w.setCell ⟨P, 0, none⟩ (.int .i64 pl')) := (Only.refl (fun k => k = P) _).setCell (.inl rfl) _
  obtain ⟨col, hp⟩ := h.p.p
  exact ⟨h.setPos hW ⟨col, hp.set' 0 _ (by simp)⟩, hW⟩
/-- Blocks that the reader does not hold may change. -/
theorem FX.new (h : FX g c0 w0 lb P pl c bytes ixs ps w) {w' : World} (hW : Only (fun _ => False) w w') : FX g c0 w0 lb P pl c bytes ixs ps w' :=
  ⟨h.rows.only hW (fun _ _ h => h), ⟨h.frm.only.trans hW (fun _ _ h => h.elim), h.frm.raw, h.frm.rbuf, h.frm.idx, h.frm.pos, h.frm.last⟩, h.hlast, h.p.only hW (fun h => h) h.p.pp, h.hlb⟩
theorem PB.new (h : PB g c w0 F fl w) {w' : World} (hW : Only (fun _ => False) w w') : PB g c w0 F fl w' := h.only hW (fun h => h) h.pp
/-- A line more. -/
theorem FX.rdl (h : FX g c0 w0 lb P pl c bytes ixs ps w) {w' : World} {nl lb' : Nat} {off : Int} {raw : Value} (ho : Only (ownL g c.raw) w w') (hc : SAt (g + 4) 76 (csvC g { c with nl := nl, off := off, raw := raw }) w') (hr : ∃ n xs, w'.ownsRow (g + 6) 5 1 raw n xs)
    (hl : raw.ownBlock = c.raw.ownBlock ∨ ∃ k, raw.ownBlock = some k ∧ w.heap.size ≤ k) (hlb : lb' = g + 3 ∨ raw.ownBlock = some lb') : FX g c0 w0 lb' P pl { c with nl := nl, off := off, raw := raw } bytes ixs ps w' := by
  obtain ⟨n1, x1, h1⟩ := h.rows.raw
  obtain ⟨col, hp⟩ := h.p.p
  have hpg := h.p.pg
  refine ⟨h.rows.rdl ho hc hr hl, h.frm.rdl ho hl, h.hlast, h.p.only ho (fun hk => ?_) h.p.pp, hlb⟩
  rcases hk with hk | hk | hk
  · unfold own at hk; omega
  · omega
  · exact sat_apart hp h1 (by decide) hk
theorem PB.rdl (h : PB g c w0 F fl w) (hr : Rows5 g c bytes ixs ps w) {w' : World} (ho : Only (ownL g c.raw) w w') (nl : Nat) (off : Int) (raw : Value) : PB g { c with nl := nl, off := off, raw := raw } w0 F fl w' := by
  obtain ⟨n1, x1, h1⟩ := hr.raw
  obtain ⟨col, hp⟩ := h.p
  have hpg := h.pg
  refine h.only ho (fun hk => ?_) h.pp
  rcases hk with hk | hk | hk
  · unfold own at hk; omega
  · omega
  · exact sat_apart hp h1 (by decide) hk
end

end Go.Proofs.Qxb6614395aFmt
