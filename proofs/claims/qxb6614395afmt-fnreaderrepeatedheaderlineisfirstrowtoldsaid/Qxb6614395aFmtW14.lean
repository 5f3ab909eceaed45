import Derived.Test.Qxb6614395aFmtW13
set_option linter.unusedSimpArgs false
set_option linter.unusedVariables false
namespace Go.Proofs.Qxb6614395aFmt
open Go Go.RowKit Go.Deep Go.Extern.Stop Go.Stop Go.Extern

/-- Rows of different elements lie in different blocks. -/
theorem apart_of {w : World} {base e size n base' e' size' n' : Nat} {u v : Value} {xs ys : List Value} (h : w.ownsRow base e size u n xs) (h' : w.ownsRow base' e' size' v n' ys) (he : e ≠ e') : ∀ k, u.ownBlock = some k → v.ownBlock ≠ some k := by
  intro k hk hk'
  rcases h.2 with ⟨h1, -⟩ | ⟨b, cap, cur, h1, -, h3, -⟩
  · rw [h1] at hk; cases hk
  · rcases h'.2 with ⟨h4, -⟩ | ⟨b', cap', cur', h4, -, h6, -⟩
    · rw [h4] at hk'; cases hk'
    · rw [h1] at hk
      rw [h4] at hk'
      simp only [Value.ownBlock, Option.some.injEq] at hk hk'
      subst hk
      subst hk'
      rw [h3] at h6
      simp only [Option.some.injEq, Obj.cells.injEq] at h6
      exact he h6.2.1

/-- The same block as at the start, or a new one. -/
def Since (w0 : World) (u v : Value) : Prop := v.ownBlock = u.ownBlock ∨ ∃ k, v.ownBlock = some k ∧ w0.heap.size ≤ k
theorem Since.grew {w0 w w' : World} {u v v' : Value} (h : Since w0 u v) (hg : Grew v w v' w') (hs : w0.heap.size ≤ w.heap.size) : Since w0 u v' := by
  rcases hg.loc with h' | h'
  · unfold Since; rw [h']; exact h
  · exact .inr ⟨_, h', hs⟩

/-- All blocks of a reader. -/
def ownR (g : Nat) (c : CV) : Nat → Prop := fun k => own g k ∨ k = g + 4 ∨ c.raw.ownBlock = some k ∨ c.rbuf.ownBlock = some k ∨ c.idx.ownBlock = some k ∨ c.pos.ownBlock = some k ∨ c.last.ownBlock = some k

/-- What a csv.Reader holds, its rows told. -/
structure Rows5 (g : Nat) (c : CV) (bytes : List UInt8) (ixs ps : List Value) (w : World) : Prop where
  csv : SAt (g + 4) 76 (csvC g c) w
  raw : ∃ n xs, w.ownsRow (g + 6) 5 1 c.raw n xs
  rbuf : w.ownsRow (g + 6) 5 1 c.rbuf bytes.length (bcells bytes)
  idx : w.ownsRow (g + 6) 3 1 c.idx ixs.length ixs
  pos : ∃ n, w.ownsRow (g + 6) 85 2 c.pos n ps
  last : ∃ n xs, w.ownsRow (g + 6) 9 1 c.last n xs
  apart : ∀ k, c.raw.ownBlock = some k → c.rbuf.ownBlock ≠ some k
  size : g + 6 ≤ w.heap.size

/-- Where the reader's rows lie, told from the world w0 on, in which it held c0. -/
structure From (g : Nat) (c0 c : CV) (w0 w : World) : Prop where
  only : Only (ownR g c0) w0 w
  raw : Since w0 c0.raw c.raw
  rbuf : Since w0 c0.rbuf c.rbuf
  idx : Since w0 c0.idx c.idx
  pos : Since w0 c0.pos c.pos
  last : Since w0 c0.last c.last

theorem From.in_raw {g : Nat} {c0 c : CV} {w0 w : World} (h : From g c0 c w0 w) : ∀ k, c.raw.ownBlock = some k → ownR g c0 k ∨ w0.heap.size ≤ k := fun k hk => by
  rcases h.raw with h' | ⟨k', h', hk'⟩
  · exact .inl (.inr (.inr (.inl (h'.symm.trans hk))))
  · rw [h'] at hk; simp at hk; exact .inr (by omega)
theorem From.in_rbuf {g : Nat} {c0 c : CV} {w0 w : World} (h : From g c0 c w0 w) : ∀ k, c.rbuf.ownBlock = some k → ownR g c0 k ∨ w0.heap.size ≤ k := fun k hk => by
  rcases h.rbuf with h' | ⟨k', h', hk'⟩
  · exact .inl (.inr (.inr (.inr (.inl (h'.symm.trans hk)))))
  · rw [h'] at hk; simp at hk; exact .inr (by omega)
theorem From.in_idx {g : Nat} {c0 c : CV} {w0 w : World} (h : From g c0 c w0 w) : ∀ k, c.idx.ownBlock = some k → ownR g c0 k ∨ w0.heap.size ≤ k := fun k hk => by
  rcases h.idx with h' | ⟨k', h', hk'⟩
  · exact .inl (.inr (.inr (.inr (.inr (.inl (h'.symm.trans hk))))))
  · rw [h'] at hk; simp at hk; exact .inr (by omega)
theorem From.in_pos {g : Nat} {c0 c : CV} {w0 w : World} (h : From g c0 c w0 w) : ∀ k, c.pos.ownBlock = some k → ownR g c0 k ∨ w0.heap.size ≤ k := fun k hk => by
  rcases h.pos with h' | ⟨k', h', hk'⟩
  · exact .inl (.inr (.inr (.inr (.inr (.inr (.inl (h'.symm.trans hk)))))))
  · rw [h'] at hk; simp at hk; exact .inr (by omega)
theorem From.in_last {g : Nat} {c0 c : CV} {w0 w : World} (h : From g c0 c w0 w) : ∀ k, c.last.ownBlock = some k → ownR g c0 k ∨ w0.heap.size ≤ k := fun k hk => by
  rcases h.last with h' | ⟨k', h', hk'⟩
  · exact .inl (.inr (.inr (.inr (.inr (.inr (.inr (h'.symm.trans hk)))))))
  · rw [h'] at hk; simp at hk; exact .inr (by omega)

/-- A change of blocks that the reader does not hold. -/
theorem Rows5.only {S : Nat → Prop} {g : Nat} {c : CV} {bytes : List UInt8} {ixs ps : List Value} {w w' : World} (h : Rows5 g c bytes ixs ps w) (ho : Only S w w')
    (hS : ∀ k, (k = g + 4 ∨ c.raw.ownBlock = some k ∨ c.rbuf.ownBlock = some k ∨ c.idx.ownBlock = some k ∨ c.pos.ownBlock = some k ∨ c.last.ownBlock = some k) → ¬ S k) : Rows5 g c bytes ixs ps w' := by
  obtain ⟨n1, x1, h1⟩ := h.raw
  obtain ⟨n2, h2⟩ := h.pos
  obtain ⟨n3, x3, h3⟩ := h.last
  exact ⟨ho.sat h.csv (hS _ (.inl rfl)), ⟨n1, x1, ownsRow_only h1 ho (fun k hk => hS k (.inr (.inl hk)))⟩, ownsRow_only h.rbuf ho (fun k hk => hS k (.inr (.inr (.inl hk)))), ownsRow_only h.idx ho (fun k hk => hS k (.inr (.inr (.inr (.inl hk))))),
    ⟨n2, ownsRow_only h2 ho (fun k hk => hS k (.inr (.inr (.inr (.inr (.inl hk))))))⟩, ⟨n3, x3, ownsRow_only h3 ho (fun k hk => hS k (.inr (.inr (.inr (.inr (.inr hk))))))⟩, h.apart, Nat.le_trans h.size ho.size⟩

/-- The record's bytes grow. -/
theorem Rows5.appRbuf {g : Nat} {c : CV} {bytes l : List UInt8} {ixs ps : List Value} {w wX w1 : World} {v : Value} (h : Rows5 g c bytes ixs ps w) (hX : Only (fun _ => False) w wX) (hg : Grew c.rbuf wX v w1) (ho : w1.ownsRow (g + 6) 5 1 v (bytes.length + l.length) (bcells bytes ++ bcells l)) :
    Rows5 g { c with rbuf := v } (bytes ++ l) ixs ps (w1.setCell ⟨g + 4, 11, none⟩ v) := by
  have hW : Only (fun k => c.rbuf.ownBlock = some k) w w1 := hg.only (hX.mono (fun k _ hk => hk.elim)) (fun k hk => .inl hk)
  have h4 : Only (fun k => k = g + 4) w1 (w1.setCell ⟨g + 4, 11, none⟩ v) := (Only.refl (fun k => k = g + 4) _).setCell (.inl rfl) _
  obtain ⟨n1, x1, h1⟩ := h.raw
  obtain ⟨n2, h2⟩ := h.pos
  obtain ⟨n3, x3, h3⟩ := h.last
  have hb : ∀ k, c.rbuf.ownBlock = some k → g + 6 ≤ k := fun k hk => (h.rbuf.lt k hk).1
  have hap : ∀ k, c.raw.ownBlock = some k → v.ownBlock ≠ some k := fun k hk hk' => by
    rcases hg.loc with h' | h'
    · exact h.apart k hk (h' ▸ hk')
    · rw [h'] at hk'
      simp at hk'
      have := (h1.lt k hk).2
      have := hX.size
      omega
  refine ⟨?_, ⟨n1, x1, ?_⟩, ?_, ?_, ⟨n2, ?_⟩, ⟨n3, x3, ?_⟩, hap, Nat.le_trans h.size (Nat.le_trans hW.size h4.size)⟩
  · exact (hW.sat h.csv (fun hk => by have := hb _ hk; omega)).set' 11 _ (by simp [csvC])
  · exact ownsRow_only (ownsRow_only h1 hW (fun k hk => h.apart k hk)) h4 (fun k hk hk' => by have := (h1.lt k hk).1; omega)
  · rw [List.length_append, bcells_append]
    exact ownsRow_only ho h4 (fun k hk hk' => by have := (ho.lt k hk).1; omega)
  · exact ownsRow_only (ownsRow_only h.idx hW (apart_of h.idx h.rbuf (by decide))) h4 (fun k hk hk' => by have := (h.idx.lt k hk).1; omega)
  · exact ownsRow_only (ownsRow_only h2 hW (apart_of h2 h.rbuf (by decide))) h4 (fun k hk hk' => by have := (h2.lt k hk).1; omega)
  · exact ownsRow_only (ownsRow_only h3 hW (apart_of h3 h.rbuf (by decide))) h4 (fun k hk hk' => by have := (h3.lt k hk).1; omega)
theorem Rows5.appIdx {g : Nat} {c : CV} {bytes : List UInt8} {ixs ps : List Value} {x : Value} {w wX w1 : World} {v : Value} (h : Rows5 g c bytes ixs ps w) (hX : Only (fun _ => False) w wX) (hg : Grew c.idx wX v w1) (ho : w1.ownsRow (g + 6) 3 1 v (ixs.length + 1) (ixs ++ [x])) :
    Rows5 g { c with idx := v } bytes (ixs ++ [x]) ps (w1.setCell ⟨g + 4, 12, none⟩ v) := by
  have hW : Only (fun k => c.idx.ownBlock = some k) w w1 := hg.only (hX.mono (fun k _ hk => hk.elim)) (fun k hk => .inl hk)
  have h4 : Only (fun k => k = g + 4) w1 (w1.setCell ⟨g + 4, 12, none⟩ v) := (Only.refl (fun k => k = g + 4) _).setCell (.inl rfl) _
  obtain ⟨n1, x1, h1⟩ := h.raw
  obtain ⟨n2, h2⟩ := h.pos
  obtain ⟨n3, x3, h3⟩ := h.last
  have hb : ∀ k, c.idx.ownBlock = some k → g + 6 ≤ k := fun k hk => (h.idx.lt k hk).1
  refine ⟨?_, ⟨n1, x1, ?_⟩, ?_, ?_, ⟨n2, ?_⟩, ⟨n3, x3, ?_⟩, h.apart, Nat.le_trans h.size (Nat.le_trans hW.size h4.size)⟩
  · exact (hW.sat h.csv (fun hk => by have := hb _ hk; omega)).set' 12 _ (by simp [csvC])
  · exact ownsRow_only (ownsRow_only h1 hW (apart_of h1 h.idx (by decide))) h4 (fun k hk hk' => by have := (h1.lt k hk).1; omega)
  · exact ownsRow_only (ownsRow_only h.rbuf hW (apart_of h.rbuf h.idx (by decide))) h4 (fun k hk hk' => by have := (h.rbuf.lt k hk).1; omega)
  · rw [List.length_append]
    exact ownsRow_only ho h4 (fun k hk hk' => by have := (ho.lt k hk).1; omega)
  · exact ownsRow_only (ownsRow_only h2 hW (apart_of h2 h.idx (by decide))) h4 (fun k hk hk' => by have := (h2.lt k hk).1; omega)
  · exact ownsRow_only (ownsRow_only h3 hW (apart_of h3 h.idx (by decide))) h4 (fun k hk hk' => by have := (h3.lt k hk).1; omega)
theorem Rows5.appPos {g : Nat} {c : CV} {bytes : List UInt8} {ixs ps : List Value} {x y : Value} {w wX w1 : World} {v : Value} {n : Nat} (h : Rows5 g c bytes ixs ps w) (hX : Only (fun _ => False) w wX) (hg : Grew c.pos wX v w1) (ho : w1.ownsRow (g + 6) 85 2 v (n + 1) (ps ++ [x, y])) :
    Rows5 g { c with pos := v } bytes ixs (ps ++ [x, y]) (w1.setCell ⟨g + 4, 13, none⟩ v) := by
  have hW : Only (fun k => c.pos.ownBlock = some k) w w1 := hg.only (hX.mono (fun k _ hk => hk.elim)) (fun k hk => .inl hk)
  have h4 : Only (fun k => k = g + 4) w1 (w1.setCell ⟨g + 4, 13, none⟩ v) := (Only.refl (fun k => k = g + 4) _).setCell (.inl rfl) _
  obtain ⟨n1, x1, h1⟩ := h.raw
  obtain ⟨n2, h2⟩ := h.pos
  obtain ⟨n3, x3, h3⟩ := h.last
  have hb : ∀ k, c.pos.ownBlock = some k → g + 6 ≤ k := fun k hk => (h2.lt k hk).1
  refine ⟨?_, ⟨n1, x1, ?_⟩, ?_, ?_, ⟨n + 1, ?_⟩, ⟨n3, x3, ?_⟩, h.apart, Nat.le_trans h.size (Nat.le_trans hW.size h4.size)⟩
  · exact (hW.sat h.csv (fun hk => by have := hb _ hk; omega)).set' 13 _ (by simp [csvC])
  · exact ownsRow_only (ownsRow_only h1 hW (apart_of h1 h2 (by decide))) h4 (fun k hk hk' => by have := (h1.lt k hk).1; omega)
  · exact ownsRow_only (ownsRow_only h.rbuf hW (apart_of h.rbuf h2 (by decide))) h4 (fun k hk hk' => by have := (h.rbuf.lt k hk).1; omega)
  · exact ownsRow_only (ownsRow_only h.idx hW (apart_of h.idx h2 (by decide))) h4 (fun k hk hk' => by have := (h.idx.lt k hk).1; omega)
  · exact ownsRow_only ho h4 (fun k hk hk' => by have := (ho.lt k hk).1; omega)
  · exact ownsRow_only (ownsRow_only h3 hW (apart_of h3 h2 (by decide))) h4 (fun k hk hk' => by have := (h3.lt k hk).1; omega)
end Go.Proofs.Qxb6614395aFmt
