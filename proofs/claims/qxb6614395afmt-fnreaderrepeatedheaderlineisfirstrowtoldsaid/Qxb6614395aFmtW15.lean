import Derived.Test.Qxb6614395aFmtW14
import Derived.Test.Qxb6614395aFmtL4
import Derived.WalkMore
set_option linter.unusedSimpArgs false
set_option linter.unusedVariables false
namespace Go.Proofs.Qxb6614395aFmt
open Go Go.RowKit Go.Deep Go.Extern.Stop Go.Stop Go.Extern
attribute [local go_sem] str_size str_get str_extract str_toList str_append

/-- Behind the loop over empty lines. -/
def SkipP (g : Nat) (c0 : CV) (bE : Addr) (R : RRes) (w0 : World) (v6 v7 : Value) (wr : World) : Prop :=
  ∃ (lb lo n cap : Nat) (ln : List UInt8) (c : CV) (bytes : List UInt8) (ixs ps : List Value), v6 = .slice (some ⟨lb, lo, none⟩) n cap ∧ n ≤ cap ∧ ln.length = n ∧ n ≤ 2000000 ∧ Seg wr lb lo ln ∧ (lb = g + 3 ∨ c.raw.ownBlock = some lb) ∧ Rows5 g c bytes ixs ps wr ∧ From g c0 c w0 wr ∧
    c.rbuf = c0.rbuf ∧ c.idx = c0.idx ∧ c.pos = c0.pos ∧ c.last = c0.last ∧ c.nl ≤ 2500000 ∧ 34 ∉ ln ∧
    ((v7 = .nilIface ∧ ∃ s rest r, Src g (tripA bE) s rest r wr ∧ R = .ok (spl ln) c.nl s rest ∧ c.nl + rest.length ≤ 1000000 ∧ 34 ∉ rest) ∨ (v7 = tripA bE ∧ R = .err) ∨ (∃ N, v7 = tripE N ∧ g + 6 ≤ N ∧ IsC N wr ∧ R = .err))

theorem Rows5.rdl {g : Nat} {c : CV} {bytes : List UInt8} {ixs ps : List Value} {w w' : World} {nl : Nat} {off : Int} {raw : Value} (h : Rows5 g c bytes ixs ps w) (ho : Only (ownL g c.raw) w w') (hc : SAt (g + 4) 76 (csvC g { c with nl := nl, off := off, raw := raw }) w') (hr : ∃ n xs, w'.ownsRow (g + 6) 5 1 raw n xs)
    (hl : raw.ownBlock = c.raw.ownBlock ∨ ∃ k, raw.ownBlock = some k ∧ w.heap.size ≤ k) : Rows5 g { c with nl := nl, off := off, raw := raw } bytes ixs ps w' := by
  obtain ⟨n1, x1, h1⟩ := h.raw
  obtain ⟨n2, h2⟩ := h.pos
  obtain ⟨n3, x3, h3⟩ := h.last
  have key : ∀ (v : Value), (∀ k, v.ownBlock = some k → g + 6 ≤ k) → (∀ k, v.ownBlock = some k → c.raw.ownBlock ≠ some k) → ∀ k, v.ownBlock = some k → ¬ ownL g c.raw k := by
    intro v hv hv' k hk h
    have := hv k hk
    rcases h with h | h | h
    · unfold own at h; omega
    · omega
    · exact hv' k hk h
  refine ⟨hc, hr, ownsRow_only h.rbuf ho (key _ (fun k hk => (h.rbuf.lt k hk).1) (fun k hk hk' => h.apart k hk' hk)), ownsRow_only h.idx ho (key _ (fun k hk => (h.idx.lt k hk).1) (apart_of h.idx h1 (by decide))),
    ⟨n2, ownsRow_only h2 ho (key _ (fun k hk => (h2.lt k hk).1) (apart_of h2 h1 (by decide)))⟩, ⟨n3, x3, ownsRow_only h3 ho (key _ (fun k hk => (h3.lt k hk).1) (apart_of h3 h1 (by decide)))⟩, ?_, Nat.le_trans h.size ho.size⟩
  intro k hk hk'
  rcases hl with h' | ⟨k', h', hk2⟩
  · exact h.apart k (h' ▸ hk) hk'
  · simp only [] at hk hk'
    rw [h'] at hk
    simp at hk
    have := (h.rbuf.lt k hk').2
    omega
theorem From.rdl {g : Nat} {c0 c : CV} {w0 w w' : World} {nl : Nat} {off : Int} {raw : Value} (h : From g c0 c w0 w) (ho : Only (ownL g c.raw) w w') (hl : raw.ownBlock = c.raw.ownBlock ∨ ∃ k, raw.ownBlock = some k ∧ w.heap.size ≤ k) : From g c0 { c with nl := nl, off := off, raw := raw } w0 w' := by
  refine ⟨h.only.trans ho (fun k hk hk' => ?_), ?_, h.rbuf, h.idx, h.pos, h.last⟩
  · rcases hk' with h' | h' | h'
    · exact .inl h'
    · exact .inr (.inl h')
    · rcases h.in_raw k h' with h2 | h2
      · exact h2
      · omega
  · rcases hl with h' | ⟨k', h', hk2⟩
    · rcases h.raw with h2 | ⟨k, h2, h3⟩
      · exact .inl (h'.trans h2)
      · exact .inr ⟨k, h'.trans h2, h3⟩
    · exact .inr ⟨k', h', Nat.le_trans h.only.size hk2⟩

theorem Rows5.ge {g : Nat} {c : CV} {bytes : List UInt8} {ixs ps : List Value} {w : World} (h : Rows5 g c bytes ixs ps w) : ∀ k, ownR g c k → g ≤ k := by
  obtain ⟨n1, x1, h1⟩ := h.raw
  obtain ⟨n2, h2⟩ := h.pos
  obtain ⟨n3, x3, h3⟩ := h.last
  intro k hk
  rcases hk with h' | h' | h' | h' | h' | h' | h'
  · exact h'.1
  · omega
  · have := (h1.lt k h').1; omega
  · have := (h.rbuf.lt k h').1; omega
  · have := (h.idx.lt k h').1; omega
  · have := (h2.lt k h').1; omega
  · have := (h3.lt k h').1; omega

/-- The loop over empty lines. -/
def SkI (g : Nat) (c0 : CV) (bE : Addr) (R : RRes) (w0 : World) (f : Nat) (c : CV) (s : Nat × Bool) (rest : List UInt8) (r : Nat) (bytes : List UInt8) (ixs ps : List Value) (wr : World) : Prop :=
  Src g (tripA bE) s rest r wr ∧ Rows5 g c bytes ixs ps wr ∧ From g c0 c w0 wr ∧ c.rbuf = c0.rbuf ∧ c.idx = c0.idx ∧ c.pos = c0.pos ∧ c.last = c0.last ∧ c.nl + rest.length ≤ 1000000 ∧ 34 ∉ rest ∧ rr f s rest c.nl = R ∧ rest.length < f

theorem norm_mem {x : List UInt8} {b : UInt8} (h : b ∈ norm x) : b ∈ x ∨ b = 10 := by
  unfold norm at h
  split at h
  · split at h
    · rcases List.mem_append.1 h with h | h
      · exact .inl ((List.dropLast_sublist _).subset ((List.dropLast_sublist _).subset h))
      · simp at h; exact .inr h
    · exact .inl h
  · split at h
    · exact .inl ((List.dropLast_sublist _).subset h)
    · exact .inl h

theorem nlOf_all {l : List UInt8} : l.length = nlOf l ↔ (l = [] ∨ l = [10]) := by
  constructor
  · intro h
    unfold nlOf at h
    split at h
    · rename_i h'
      right
      match l, h with
      | [a], _ => simp at h'; rw [h']
    · left; exact List.eq_nil_of_length_eq_zero h
  · rintro (rfl | rfl) <;> rfl

/-- A slice's shape, and its first none. -/
theorem own_cut {w : World} {base e size n : Nat} {v : Value} {xs : List Value} (h : w.ownsRow base e size v n xs) : ∃ v0 : Value, v0.ownBlock = v.ownBlock ∧ w.ownsRow base e size v0 0 [] ∧ ((v = .slice none 0 0 ∧ v0 = .slice none 0 0) ∨ ∃ b cap, v = .slice (some ⟨b, 0, none⟩) n cap ∧ v0 = .slice (some ⟨b, 0, none⟩) 0 cap ∧ n ≤ cap) := by
  have h' := h
  rcases h.2 with ⟨h1, h2⟩ | ⟨b, cap, cur, h1, h2, h3, h4, h5⟩
  · exact ⟨.slice none 0 0, by rw [h1], World.ownsRow_nil _ _ _ _, .inl ⟨h1, rfl⟩⟩
  · refine ⟨.slice (some ⟨b, 0, none⟩) 0 cap, by rw [h1]; rfl, ?_, .inr ⟨b, cap, h1, rfl, h4⟩⟩
    rw [h1] at h'
    exact ownsRow_none h'
theorem Rows5.cutRbuf {g : Nat} {c : CV} {bytes : List UInt8} {ixs ps : List Value} {w : World} {v0 : Value} (h : Rows5 g c bytes ixs ps w) (hb : v0.ownBlock = c.rbuf.ownBlock) (ho : w.ownsRow (g + 6) 5 1 v0 0 []) : Rows5 g { c with rbuf := v0 } [] ixs ps (w.setCell ⟨g + 4, 11, none⟩ v0) := by
  have h4 : Only (fun k => k = g + 4) w (w.setCell ⟨g + 4, 11, none⟩ v0) := (Only.refl (fun k => k = g + 4) _).setCell (.inl rfl) _
  obtain ⟨n1, x1, h1⟩ := h.raw
  obtain ⟨n2, h2⟩ := h.pos
  obtain ⟨n3, x3, h3⟩ := h.last
  exact ⟨h.csv.set' 11 _ (by simp [csvC]), ⟨n1, x1, ownsRow_only h1 h4 (fun k hk hk' => by have := (h1.lt k hk).1; omega)⟩, ownsRow_only ho h4 (fun k hk hk' => by have := (ho.lt k hk).1; omega), ownsRow_only h.idx h4 (fun k hk hk' => by have := (h.idx.lt k hk).1; omega),
    ⟨n2, ownsRow_only h2 h4 (fun k hk hk' => by have := (h2.lt k hk).1; omega)⟩, ⟨n3, x3, ownsRow_only h3 h4 (fun k hk hk' => by have := (h3.lt k hk).1; omega)⟩, fun k hk => by simp only []; rw [hb]; exact h.apart k hk, Nat.le_trans h.size h4.size⟩
theorem Rows5.cutIdx {g : Nat} {c : CV} {bytes : List UInt8} {ixs ps : List Value} {w : World} {v0 : Value} (h : Rows5 g c bytes ixs ps w) (ho : w.ownsRow (g + 6) 3 1 v0 0 []) : Rows5 g { c with idx := v0 } bytes [] ps (w.setCell ⟨g + 4, 12, none⟩ v0) := by
  have h4 : Only (fun k => k = g + 4) w (w.setCell ⟨g + 4, 12, none⟩ v0) := (Only.refl (fun k => k = g + 4) _).setCell (.inl rfl) _
  obtain ⟨n1, x1, h1⟩ := h.raw
  obtain ⟨n2, h2⟩ := h.pos
  obtain ⟨n3, x3, h3⟩ := h.last
  exact ⟨h.csv.set' 12 _ (by simp [csvC]), ⟨n1, x1, ownsRow_only h1 h4 (fun k hk hk' => by have := (h1.lt k hk).1; omega)⟩, ownsRow_only h.rbuf h4 (fun k hk hk' => by have := (h.rbuf.lt k hk).1; omega), ownsRow_only ho h4 (fun k hk hk' => by have := (ho.lt k hk).1; omega),
    ⟨n2, ownsRow_only h2 h4 (fun k hk hk' => by have := (h2.lt k hk).1; omega)⟩, ⟨n3, x3, ownsRow_only h3 h4 (fun k hk hk' => by have := (h3.lt k hk).1; omega)⟩, h.apart, Nat.le_trans h.size h4.size⟩
theorem Rows5.cutPos {g : Nat} {c : CV} {bytes : List UInt8} {ixs ps : List Value} {w : World} {v0 : Value} (h : Rows5 g c bytes ixs ps w) (ho : w.ownsRow (g + 6) 85 2 v0 0 []) : Rows5 g { c with pos := v0 } bytes ixs [] (w.setCell ⟨g + 4, 13, none⟩ v0) := by
  have h4 : Only (fun k => k = g + 4) w (w.setCell ⟨g + 4, 13, none⟩ v0) := (Only.refl (fun k => k = g + 4) _).setCell (.inl rfl) _
  obtain ⟨n1, x1, h1⟩ := h.raw
  obtain ⟨n3, x3, h3⟩ := h.last
  exact ⟨h.csv.set' 13 _ (by simp [csvC]), ⟨n1, x1, ownsRow_only h1 h4 (fun k hk hk' => by have := (h1.lt k hk).1; omega)⟩, ownsRow_only h.rbuf h4 (fun k hk hk' => by have := (h.rbuf.lt k hk).1; omega), ownsRow_only h.idx h4 (fun k hk hk' => by have := (h.idx.lt k hk).1; omega),
    ⟨0, ownsRow_only ho h4 (fun k hk hk' => by have := (ho.lt k hk).1; omega)⟩, ⟨n3, x3, ownsRow_only h3 h4 (fun k hk hk' => by have := (h3.lt k hk).1; omega)⟩, h.apart, Nat.le_trans h.size h4.size⟩
/-- Blocks changed elsewhere or of the reader's own: the frame. -/
theorem From.step {g : Nat} {c0 c c' : CV} {w0 w w' : World} (h : From g c0 c w0 w) (ho : Only (ownR g c) w w') (h1 : c'.raw = c.raw) (h2 : Since w0 c0.rbuf c'.rbuf) (h3 : Since w0 c0.idx c'.idx) (h4 : Since w0 c0.pos c'.pos) (h5 : Since w0 c0.last c'.last) : From g c0 c' w0 w' := by
  refine ⟨h.only.trans ho (fun k hk hk' => ?_), by rw [h1]; exact h.raw, h2, h3, h4, h5⟩
  rcases hk' with h' | h' | h' | h' | h' | h' | h'
  · exact .inl h'
  · exact .inr (.inl h')
  · exact (h.in_raw k h').elim id (fun h2 => by omega)
  · exact (h.in_rbuf k h').elim id (fun h2 => by omega)
  · exact (h.in_idx k h').elim id (fun h2 => by omega)
  · exact (h.in_pos k h').elim id (fun h2 => by omega)
  · exact (h.in_last k h').elim id (fun h2 => by omega)

/-- What readRecord gives. -/
def RRPost (g : Nat) (c0 : CV) (bE : Addr) (R : RRes) (w : World) (e : Ending) (w' : World) : Prop :=
  (R = .err ∧ ∃ p n cap E, e = .returned (.tuple #[.slice p n cap, E]) ∧ (E = tripA bE ∨ ∃ N, E = tripE N ∧ g + 6 ≤ N ∧ IsC N w') ∧ Only (ownR g c0) w w' ∧ ∃ c', SAt (g + 4) 76 (csvC g c') w') ∨
  (∃ flds nl s rest r c bytes ixs ps b cap, R = .ok flds nl s rest ∧ e = .returned (.tuple #[.slice (some ⟨b, 0, none⟩) flds.length cap, .nilIface]) ∧ Src g (tripA bE) s rest r w' ∧ Rows5 g c bytes ixs ps w' ∧ From g c0 c w w' ∧ c.last = c0.last ∧ c.nl = nl ∧ nl + rest.length ≤ 1000000 ∧ 34 ∉ rest ∧
    w'.ownsRow (g + 6) 9 1 (.slice (some ⟨b, 0, none⟩) flds.length cap) flds.length (flds.map fun f => .string (str f)) ∧ Since w c0.last (.slice (some ⟨b, 0, none⟩) flds.length cap) ∧ (∃ col t, ps = .int .i64 nl :: .int .i64 col :: t))

end Go.Proofs.Qxb6614395aFmt
