import Derived.Test.Qxb6614395aFmtD5
import Derived.WalkMore
set_option linter.unusedSimpArgs false
set_option linter.unusedVariables false
namespace Go.Proofs.Qxb6614395aFmt
open Go Go.RowKit Go.Deep Go.Extern.Stop Go.Stop Go.Extern
attribute [local go_sem] str_size str_get str_extract str_toList str_append
/-- An error that csv gives. -/
def ErrQ (g : Nat) (bE : Addr) (E : Value) (w : World) : Prop := ∃ t v, E = .iface t v ∧ (t = 99 → E = tripA bE ∨ ∃ N, E = tripE N ∧ g + 6 ≤ N ∧ IsC N w)
/-- Behind the loop over empty lines. -/
def SkipQ (g : Nat) (c0 : CV) (bE : Addr) (R : QRes) (w0 : World) (v6 v7 : Value) (wr : World) : Prop :=
  ∃ (lb lo n cap : Nat) (ln : List UInt8) (c : CV) (bytes : List UInt8) (ixs ps : List Value), v6 = .slice (some ⟨lb, lo, none⟩) n cap ∧ n ≤ cap ∧ ln.length = n ∧ n ≤ 2000000 ∧ Seg wr lb lo ln ∧ (lb = g + 3 ∨ c.raw.ownBlock = some lb) ∧ Rows5 g c bytes ixs ps wr ∧ From g c0 c w0 wr ∧
    c.rbuf = c0.rbuf ∧ c.idx = c0.idx ∧ c.pos = c0.pos ∧ c.last = c0.last ∧ ∃ a, c.nl = c0.nl + a ∧
    ((v7 = .nilIface ∧ ∃ s rest r, Src g (tripA bE) s rest r wr ∧ par [] none ln s rest a a = R ∧ c.nl + rest.length ≤ 1000000 ∧ ln.length + rest.length ≤ 1000000) ∨ (v7 = tripA bE ∧ R = .err) ∨ (∃ N, v7 = tripE N ∧ g + 6 ≤ N ∧ IsC N wr ∧ R = .err))
/-- The loop over empty lines. -/
def SkJ (g : Nat) (c0 : CV) (bE : Addr) (R : QRes) (w0 : World) (f : Nat) (c : CV) (s : Nat × Bool) (rest : List UInt8) (r b : Nat) (bytes : List UInt8) (ixs ps : List Value) (wr : World) : Prop :=
  Src g (tripA bE) s rest r wr ∧ Rows5 g c bytes ixs ps wr ∧ From g c0 c w0 wr ∧ c.rbuf = c0.rbuf ∧ c.idx = c0.idx ∧ c.pos = c0.pos ∧ c.last = c0.last ∧ c.nl + rest.length ≤ 1000000 ∧ c.nl = c0.nl + b ∧ qx s rest b = R ∧ rest.length < f
/-- What readRecord gives. -/
def RRQ (g : Nat) (c0 : CV) (bE : Addr) (R : QRes) (w : World) (e : Ending) (w' : World) : Prop :=
  (R = .err ∧ ∃ p n cap E, e = .returned (.tuple #[.slice p n cap, E]) ∧ ErrQ g bE E w' ∧ Only (ownR g c0) w w' ∧ ∃ c', SAt (g + 4) 76 (csvC g c') w') ∨
  (∃ flds a b s rest r c bytes ixs ps bd cap, R = .ok flds a b s rest ∧ e = .returned (.tuple #[.slice (some ⟨bd, 0, none⟩) flds.length cap, .nilIface]) ∧ Src g (tripA bE) s rest r w' ∧ Rows5 g c bytes ixs ps w' ∧ From g c0 c w w' ∧ c.last = c0.last ∧ c.nl = c0.nl + b ∧ c.nl + rest.length ≤ 1000000 ∧
    w'.ownsRow (g + 6) 9 1 (.slice (some ⟨bd, 0, none⟩) flds.length cap) flds.length (strC flds) ∧ Since w c0.last (.slice (some ⟨bd, 0, none⟩) flds.length cap) ∧ (∃ col t, ps = .int .i64 ((c0.nl + a : Nat) : Int) :: .int .i64 col :: t))
/-- The i-th field out of the record's bytes. -/
theorem flat_field2 (flds : List (List UInt8)) (extra : List UInt8) (i : Nat) (h : i < flds.length) : ((flds.flatten ++ extra).take (flds.take (i + 1)).flatten.length).drop (flds.take i).flatten.length = flds[i] := by
  rw [List.take_append_of_le_length (flat_le flds (i + 1))]
  exact flat_field flds i h
theorem ErrQ.only {S : Nat → Prop} {g : Nat} {bE : Addr} {E : Value} {w w' : World} (h : ErrQ g bE E w) (ho : Only S w w') : ErrQ g bE E w' := by
  obtain ⟨t, v, h1, h2⟩ := h
  exact ⟨t, v, h1, fun h => (h2 h).imp id (fun ⟨N, h3, h4, h5⟩ => ⟨N, h3, h4, ho.cells _ h5⟩)⟩

end Go.Proofs.Qxb6614395aFmt
