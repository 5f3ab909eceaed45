import Derived.Test.Qxb6614395aFmtW10
import Derived.Test.Qxb6614395aFmtL3
import Derived.LaidEql
set_option linter.unusedSimpArgs false
set_option linter.unusedVariables false
namespace Go.Proofs.Qxb6614395aFmt
open Go Go.RowKit Go.Deep Go.Extern.Stop Go.Stop Go.Extern
attribute [local go_sem] str_size str_get str_extract str_toList str_append

/-- What changes in a csv.Reader. -/
structure CV where
  nl : Nat
  off : Int
  raw : Value
  rbuf : Value
  idx : Value
  pos : Value
  last : Value

/-- The csv.Reader's cells. -/
def csvC (g : Nat) (c : CV) : List Value := [.int .i32 44, .int .i32 0, .int .i64 (-1), .bool false, .bool false, .bool true, .bool false, .pointer (some ⟨g + 2, 0, none⟩), .int .i64 c.nl, .int .i64 c.off, c.raw, c.rbuf, c.idx, c.pos, c.last]

/-- An error at a given place. -/
def tripA (a : Addr) : Value := .iface 99 (.pointer (some a))
theorem trip_ne {N g : Nat} {b : Addr} (h : b.block < g) (hN : g ≤ N) : (⟨N, 0, none⟩ : Addr) ≠ b := by
  rintro rfl
  simp only [] at h
  omega
theorem trip_no {N g : Nat} {b : Addr} (h : b.block < g) (hN : g ≤ N) : tripE N ≠ tripA b := by
  intro h'
  simp only [tripE, tripA, Value.iface.injEq, Value.pointer.injEq, Option.some.injEq, true_and] at h'
  exact trip_ne h hN h'
theorem tripA_no {a b : Addr} (h : a ≠ b) : tripA a ≠ tripA b := by
  intro h'
  simp only [tripA, Value.iface.injEq, Value.pointer.injEq, Option.some.injEq, true_and] at h'
  exact h h'
/-- Two sentinels, and what they are kept apart from. -/
structure Sent (g : Nat) (bE bF : Addr) (w : World) : Prop where
  e : w.cell? ⟨0, 0, none⟩ = some (tripA bE)
  f : w.cell? ⟨7, 0, none⟩ = some (tripA bF)
  ne : bE ≠ bF
  eg : bE.block < g
  fg : bF.block < g
  g10 : 10 < g
  ce : IsC bE.block w
  cf : IsC bF.block w
theorem Sent.only {S : Nat → Prop} {g : Nat} {bE bF : Addr} {w w' : World} (h : Sent g bE bF w) (ho : Only S w w') (hS : ∀ k, k < g → ¬ S k) : Sent g bE bF w' :=
  ⟨ho.cell h.e (hS _ (by have := h.g10; simp only []; omega)), ho.cell h.f (hS _ (by have := h.g10; simp only []; omega)), h.ne, h.eg, h.fg, h.g10, ho.cells _ h.ce, ho.cells _ h.cf⟩

/-- What has been gathered of a line: x. -/
def LC (g : Nat) (eof bfull : Value) (s : Nat × Bool) (rest x : List UInt8) (q : Nat) (E : Value) (w : World) : Prop :=
  (E = .nilIface ∧ x = rest.take (lineLen rest) ∧ 10 ∈ rest ∧ s.1 + lineLen rest ≤ 65536 ∧ ∃ r, q ≤ r ∧ Src g eof (adv s x) (rest.drop (lineLen rest)) r w) ∨
  (E = bfull ∧ 0 < x.length ∧ ∃ rest', rest = x ++ rest' ∧ 10 ∉ x ∧ fits s x ∧ ∃ r, Src g eof (adv s x) rest' r w) ∨
  (E = eof ∧ x = rest ∧ 10 ∉ rest ∧ fits s rest ∧ ∃ r', Src g eof (adv s rest) [] r' w) ∨
  (∃ N, E = tripE N ∧ g + 6 ≤ N ∧ IsC N w ∧ 10 ∉ x ∧ (∀ b ∈ x, b ∈ rest) ∧ 65536 < s.1 + lineLen rest)

theorem RSC.lc {g : Nat} {eof bfull : Value} {s : Nat × Bool} {rest : List UInt8} {o : Nat} {x : List UInt8} {E : Value} {w : World} (h : RSC g eof bfull s rest o x E w) : LC g eof bfull s rest x (o + x.length) E w := by
  rcases h with ⟨h1, h2, h3, h4, h5⟩ | ⟨h1, h2, r, h3, h4, h5, h6⟩ | ⟨h1, h2, h3, h4, r, h5⟩ | h
  · exact .inl ⟨h1, h2, h3, h4, _, Nat.le_refl _, h5⟩
  · exact .inr (.inl ⟨h1, by omega, r, h3, h4, h5, _, h6⟩)
  · exact .inr (.inr (.inl ⟨h1, h2, h3, h4, r, h5⟩))
  · exact .inr (.inr (.inr h))
theorem LC.only {S : Nat → Prop} {g : Nat} {eof bfull : Value} {s : Nat × Bool} {rest : List UInt8} {x : List UInt8} {q : Nat} {E : Value} {w w' : World} (h : LC g eof bfull s rest x q E w) (ho : Only S w w') (hS : ∀ k, own g k → ¬ S k) : LC g eof bfull s rest x q E w' := by
  rcases h with ⟨h1, h2, h3, h4, r, hq, h5⟩ | ⟨h1, h2, r, h3, h4, h5, r', h6⟩ | ⟨h1, h2, h3, h4, r, h5⟩ | h
  · exact .inl ⟨h1, h2, h3, h4, r, hq, h5.only ho hS⟩
  · exact .inr (.inl ⟨h1, h2, r, h3, h4, h5, r', h6.only ho hS⟩)
  · exact .inr (.inr (.inl ⟨h1, h2, h3, h4, r, h5.only ho hS⟩))
  · obtain ⟨N, h1, h2, h3, h4⟩ := h
    exact .inr (.inr (.inr ⟨N, h1, h2, ho.cells _ h3, h4⟩))
/-- One more slice behind acc. -/
theorem LC.more {g : Nat} {eof bfull : Value} {s : Nat × Bool} {rest acc rest' x : List UInt8} {q : Nat} {E : Value} {w : World} (h : LC g eof bfull (adv s acc) rest' x q E w) (hr : rest = acc ++ rest') (hn : 10 ∉ acc) (hf : fits s acc) (h0 : 0 < acc.length) : LC g eof bfull s rest (acc ++ x) 0 E w := by
  have hll : lineLen rest = acc.length + lineLen rest' := by rw [hr, lineLen_append_none rest' hn]
  have ha := adv_piece acc s hn
  have h1' : (adv s acc).1 = s.1 + acc.length := by rw [ha.1]
  rcases h with ⟨h1, h2, h3, h4, r, hq, h5⟩ | ⟨h1, h2, r, h3, h4, h5, r', h6⟩ | ⟨h1, h2, h3, h4, r, h5⟩ | ⟨N, h1, h2, hNc, hNx, hNr, h3⟩
  · refine .inl ⟨h1, ?_, by rw [hr]; simp [h3], by omega, r, Nat.zero_le _, ?_⟩
    · rw [hll, hr, List.take_length_add_append, h2]
    · rw [adv_append, hll, hr, List.drop_length_add_append]; exact h5
  · refine .inr (.inl ⟨h1, by rw [List.length_append]; omega, r, by rw [hr, h3, List.append_assoc], by simp [hn, h4], by rw [fits_append]; exact ⟨hf, h5⟩, r', by rw [adv_append]; exact h6⟩)
  · exact .inr (.inr (.inl ⟨h1, by rw [hr, h2], by rw [hr]; simp [hn, h3], by rw [hr, fits_append]; exact ⟨hf, h4⟩, r, by rw [hr, adv_append]; exact h5⟩))
  · exact .inr (.inr (.inr ⟨N, h1, h2, hNc, by simp [hn, hNx], (by rw [hr]; intro b hb; rcases List.mem_append.1 hb with h | h; exact List.mem_append_left _ h; exact List.mem_append_right _ (hNr b h)), by omega⟩))

theorem info101 : (Tryf.prog.info? 101).map (·.size) = some 1 := by kernel_rfl
theorem info99 : (Tryf.prog.info? 99).map (·.comparable) = some true := by kernel_rfl
/-- Two errors of errors.New's make: different blocks, different errors. -/
theorem eql_other (w : World) (a b : Addr) (hne : a ≠ b) (ha : IsC a.block w) (hb : IsC b.block w) : (binOp .eql 32 (.iface 99 (.pointer (some a))) (.iface 99 (.pointer (some b)))).run Tryf.prog w = .ok (.bool false) w := by
  obtain ⟨ca, ta, ha⟩ := ha
  obtain ⟨cb, tb, hb⟩ := hb
  obtain ⟨i, hi, hi'⟩ := Option.map_eq_some_iff.1 info99
  obtain ⟨j, hj, hj'⟩ := Option.map_eq_some_iff.1 info101
  exact run_eql_iface_ptr_other (P := Tryf.prog) w Tryf.underlying32 Tryf.underlying99 hi hi' hj (by omega) (by simp [hne]) ha hb
theorem eql_same (w : World) (a : Addr) : (binOp .eql 32 (.iface 99 (.pointer (some a))) (.iface 99 (.pointer (some a)))).run Tryf.prog w = .ok (.bool true) w := by
  obtain ⟨i, hi, hi'⟩ := Option.map_eq_some_iff.1 info99
  obtain ⟨j, hj, hj'⟩ := Option.map_eq_some_iff.1 info101
  exact run_eql_iface_ptr_same (P := Tryf.prog) w a Tryf.underlying32 Tryf.underlying99 hi hi' hj
theorem eql_nil (w : World) (a : Addr) : (binOp .eql 32 .nilIface (.iface 99 (.pointer (some a)))).run Tryf.prog w = .ok (.bool false) w :=
  run_eql_iface_nil_left (P := Tryf.prog) w 99 _ Tryf.underlying32
end Go.Proofs.Qxb6614395aFmt
