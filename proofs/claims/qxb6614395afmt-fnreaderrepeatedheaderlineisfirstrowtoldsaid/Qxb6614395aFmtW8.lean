import Derived.Test.Qxb6614395aFmtW7
set_option linter.unusedSimpArgs false
set_option linter.unusedVariables false
namespace Go.Proofs.Qxb6614395aFmt
open Go Go.RowKit Go.Deep Go.Extern.Stop Go.Stop Go.Extern
attribute [local go_sem] str_size str_get str_extract str_toList str_append

/-- The error of a row that is too long. -/
def tripE (N : Nat) : Value := .iface 99 (.pointer (some ⟨N, 0, none⟩))
/-- The reader under the buffer: it runs, or its row has become too long. -/
def Under (g : Nat) (eof : Value) (s : Nat × Bool) (un : List UInt8) (e : Value) (w : World) : Prop :=
  (RunS g s un w ∧ (e = .nilIface ∨ e = eof ∧ un = [])) ∨ ∃ N, e = tripE N ∧ g + 6 ≤ N ∧ IsC N w ∧ 65536 < s.1 + lineLen un
/-- What is still to come through the buffer: rest, the automaton's state being s; the buffer is read up to place r. -/
def Src (g : Nat) (eof : Value) (s : Nat × Bool) (rest : List UInt8) (r : Nat) (w : World) : Prop :=
  s.1 ≤ 65536 ∧ ∃ bf un e, rest = bf ++ un ∧ fits s bf ∧ Buf g r bf e w ∧ Under g eof (adv s bf) un e w

theorem Under.only {S : Nat → Prop} {g : Nat} {eof : Value} {s : Nat × Bool} {un : List UInt8} {e : Value} {w w' : World} (h : Under g eof s un e w) (ho : Only S w w') (h0 : ¬ S g) (h1 : ¬ S (g + 1)) : Under g eof s un e w' := by
  rcases h with ⟨h2, h3⟩ | h
  · exact .inl ⟨h2.only ho h0 h1, h3⟩
  · obtain ⟨N, h2, h3, h4, h5⟩ := h
    exact .inr ⟨N, h2, h3, ho.cells _ h4, h5⟩
theorem Src.only {S : Nat → Prop} {g r : Nat} {eof : Value} {s : Nat × Bool} {rest : List UInt8} {w w' : World} (h : Src g eof s rest r w) (ho : Only S w w') (h0 : ∀ k, own g k → ¬ S k) : Src g eof s rest r w' := by
  obtain ⟨h1, bf, un, e, h2, h3, h4, h5⟩ := h
  exact ⟨h1, bf, un, e, h2, h3, h4.only ho (h0 _ (by unfold own; omega)) (h0 _ (by unfold own; omega)), h5.only ho (h0 _ (by unfold own; omega)) (h0 _ (by unfold own; omega))⟩

/-- The last byte's cells do not matter. -/
theorem Buf.last {g r : Nat} {bf : List UInt8} {e : Value} {w : World} (h : Buf g r bf e w) (a b : Int) : Buf g r bf e ((w.setCell ⟨g + 2, 5, none⟩ (.int .i64 a)).setCell ⟨g + 2, 6, none⟩ (.int .i64 b)) := by
  obtain ⟨B, lb, ls, h1, h2, h3, h4, h5⟩ := h
  exact ⟨B, a, b, h1, h2, h3, (h4.other (by simp) _).other (by simp) _, (h5.set 5 _).set' 6 _ (by simp [brC])⟩
theorem Src.last {g r : Nat} {eof : Value} {s : Nat × Bool} {rest : List UInt8} {w : World} (h : Src g eof s rest r w) (a b : Int) : Src g eof s rest r ((w.setCell ⟨g + 2, 5, none⟩ (.int .i64 a)).setCell ⟨g + 2, 6, none⟩ (.int .i64 b)) := by
  obtain ⟨h1, bf, un, e, h2, h3, h4, h5⟩ := h
  have ho : Only (fun k => k = g + 2) w ((w.setCell ⟨g + 2, 5, none⟩ (.int .i64 a)).setCell ⟨g + 2, 6, none⟩ (.int .i64 b)) := ((Only.refl (fun k => k = g + 2) _).setCell (.inl rfl) _).setCell (.inl rfl) _
  exact ⟨h1, bf, un, e, h2, h3, h4.last a b, h5.only ho (by omega) (by omega)⟩
/-- A byte that has been read already may be written over. -/
theorem Buf.over {g r : Nat} {bf : List UInt8} {e : Value} {w : World} (h : Buf g r bf e w) (o : Nat) (ho : o < r) (c : UInt8) : Buf g r bf e (w.setCell ⟨g + 3, o, none⟩ (.int .u8 (c.toNat : Int))) := by
  obtain ⟨B, lb, ls, h1, h2, h3, h4, h5⟩ := h
  refine ⟨B.set o c, lb, ls, by simpa using h1, h2, ?_, ?_, h5.other (by simp) _⟩
  · rw [List.drop_set_of_lt (by omega)]; exact h3
  · refine h4.set' o _ ?_
    simp [bcells, List.map_set]
theorem Src.over {g r : Nat} {eof : Value} {s : Nat × Bool} {rest : List UInt8} {w : World} (h : Src g eof s rest r w) (o : Nat) (ho : o < r) (c : UInt8) : Src g eof s rest r (w.setCell ⟨g + 3, o, none⟩ (.int .u8 (c.toNat : Int))) := by
  obtain ⟨h1, bf, un, e, h2, h3, h4, h5⟩ := h
  have hw : Only (fun k => k = g + 3) w (w.setCell ⟨g + 3, o, none⟩ (.int .u8 (c.toNat : Int))) := (Only.refl (fun k => k = g + 3) _).setCell (.inl rfl) _
  exact ⟨h1, bf, un, e, h2, h3, h4.over o ho c, h5.only hw (by omega) (by omega)⟩

theorem Buf.adv {g r : Nat} {bf : List UInt8} {e : Value} {w : World} (h : Buf g r bf e w) (n : Nat) (hn : n ≤ bf.length) {y : Int} (hy : y = ((r + n : Nat) : Int)) : Buf g (r + n) (bf.drop n) e (w.setCell ⟨g + 2, 2, none⟩ (.int .i64 y)) := by
  subst hy
  obtain ⟨B, lb, ls, h1, h2, h3, h4, h5⟩ := h
  refine ⟨B, lb, ls, h1, by rw [List.length_drop]; omega, ?_, h4.other (by simp) _, ?_⟩
  · have : (bf.drop n) = ((B.drop r).take bf.length).drop n := by rw [h3]
    rw [List.length_drop, this, List.drop_take, List.drop_drop]
  · refine h5.set' 2 _ ?_
    rw [List.length_drop]
    simp [brC]
    omega
theorem src_adv {g r : Nat} {eof e : Value} {s : Nat × Bool} {rest bf un : List UInt8} {w : World} (hs : s.1 ≤ 65536) (hr : rest = bf ++ un) (hf : fits s bf) (hb : Buf g r bf e w) (hu : Under g eof (Go.Proofs.Qxb6614395aFmt.adv s bf) un e w)
    (n : Nat) (hn : n ≤ bf.length) {y : Int} (hy : y = ((r + n : Nat) : Int)) : Src g eof (adv s (bf.take n)) (rest.drop n) (r + n) (w.setCell ⟨g + 2, 2, none⟩ (.int .i64 y)) := by
  have hf' : fits s (bf.take n ++ bf.drop n) := by rw [List.take_append_drop]; exact hf
  rw [fits_append] at hf'
  have ho : Only (fun k => k = g + 2) w (w.setCell ⟨g + 2, 2, none⟩ (.int .i64 y)) := (Only.refl (fun k => k = g + 2) _).setCell (.inl rfl) _
  refine ⟨fits_le _ _ hf'.1 hs, bf.drop n, un, e, ?_, hf'.2, hb.adv n hn hy, ?_⟩
  · rw [hr, List.drop_append_of_le_length hn]
  · rw [← adv_append, List.take_append_drop]
    exact hu.only ho (by omega) (by omega)

/-- What ReadSlice gives: x lies at place o of the buffer. -/
def RSC (g : Nat) (eof bfull : Value) (s : Nat × Bool) (rest : List UInt8) (o : Nat) (x : List UInt8) (E : Value) (w : World) : Prop :=
  (E = .nilIface ∧ x = rest.take (lineLen rest) ∧ 10 ∈ rest ∧ s.1 + lineLen rest ≤ 65536 ∧ Src g eof (adv s x) (rest.drop (lineLen rest)) (o + x.length) w) ∨
  (E = bfull ∧ x.length = 4096 ∧ ∃ rest', rest = x ++ rest' ∧ 10 ∉ x ∧ fits s x ∧ Src g eof (adv s x) rest' 4096 w) ∨
  (E = eof ∧ x = rest ∧ 10 ∉ rest ∧ fits s rest ∧ ∃ r', Src g eof (adv s rest) [] r' w) ∨
  (∃ N, E = tripE N ∧ g + 6 ≤ N ∧ IsC N w ∧ 10 ∉ x ∧ (∀ b ∈ x, b ∈ rest) ∧ 65536 < s.1 + lineLen rest)

def RSPost (g : Nat) (eof bfull : Value) (s : Nat × Bool) (rest : List UInt8) (w : World) (e : Ending) (w' : World) : Prop :=
  ∃ o n cap x E, e = .returned (.tuple #[.slice (some ⟨g + 3, o, none⟩) n cap, E]) ∧ n ≤ cap ∧ x.length = n ∧ n ≤ 4096 ∧ Seg w' (g + 3) o x ∧ Only (own g) w w' ∧ RSC g eof bfull s rest o x E w'

end Go.Proofs.Qxb6614395aFmt
