import Derived.Test.Qxb6614395aFmtW4
set_option linter.unusedSimpArgs false
set_option linter.unusedVariables false
namespace Go.Proofs.Qxb6614395aFmt
open Go Go.RowKit Go.Deep Go.Extern.Stop Go.Stop Go.Extern
attribute [local go_sem] str_size str_get str_extract str_toList str_append

set_option maxHeartbeats 800000 in
set_option maxRecDepth 20000 in
/-- rowLimit.Read at the text's end. -/
theorem rl_end (g : Nat) (T : List UInt8) (i : Nat) (p eof : Value) (a b : Int) (s : Nat × Bool) (w : World) (hi : T.length ≤ i) (hT : T.length ≤ 1000000000)
    (hg : SAt g 78 (srC T i) w) (hl : SAt (g + 1) 68 (rlC g a b s .nilIface) w) (hE : w.cell? ⟨0, 0, none⟩ = some eof) :
    Calls Tryf.prog 21 #[.pointer (some ⟨g + 1, 0, none⟩), p] w fun e w' => e = .returned (.tuple #[.int .i64 0, eof]) ∧ Quiet w w' := by
  have cR := sread_end g T i eof p w hi hT hg hE
  have c0 := hl.cell (i := 0) rfl
  have c5 := hl.cell (i := 5) rfl
  clear hg hl
  go_enter Tryf.func21, Tryf.ntmps21
  go_wp2_with (go_at_call 99; go_fit cR; rintro e w1 ⟨rfl, hq⟩)
  go_loopg [8] 1 (fun f v8 wr => v8 = .int .i64 0 ∧ wr = w1)
  case atStart => exact ⟨rfl, rfl⟩
  case round =>
    obtain ⟨rfl, hw⟩ := hrel
    have hw' := hw.symm
    subst hw'
    clear hw
    go_wp2_with fail
    go_ret2
    exact ⟨rfl, hq⟩

/-- 'copy(b, b[r:w])'. -/
theorem copy_down (w : World) (ty : TypeId) (b r n cap cap' : Nat) (B : List UInt8) (hB : SAt b 5 (bcells B) w) (hn : r + n ≤ B.length) :
    (Builtin.copy_ #[36, 36] ty #[.slice (some ⟨b, 0, none⟩) B.length cap', .slice (some ⟨b, r, none⟩) n cap]).run Tryf.prog w =
      .ok (.int .i64 (n : Int)) (w.setRow b (bcells ((B.drop r).take n ++ B.drop n)).toArray) := by
  have hl : (bcells ((B.drop r).take n)).length = n := by simp [bcells]; omega
  have := run_copy_row (P := Tryf.prog) w 36 36 ty 5 b 0 B.length cap' ⟨b, r, none⟩ n cap (bcells B).toArray 5 (bcells ((B.drop r).take n)) Tryf.underlying36 info5 hB (by rw [hl]; show n = min n B.length; omega) ?_ (by rw [hl]; simp [bcells]; omega) (bcells_one _)
  · rw [this, hl]
    simp [goInt, bcells_append, bcells_drop, bcells_take]
  · intro j v hv
    obtain ⟨hj, -⟩ := List.getElem?_eq_some_iff.1 hv
    rw [hl] at hj
    have e : (⟨b, r, none⟩ : Addr).add j = ⟨b, r + j, none⟩ := by unfold Addr.add; split <;> simp_all
    rw [e]
    refine hB.cell ?_
    rw [← hv, bcells_take, bcells_drop, List.getElem?_take_of_lt hj, List.getElem?_drop]

/-- The bufio.Reader's cells. -/
def brC (g r wv : Nat) (e : Value) (lb ls : Int) : List Value := [.slice (some ⟨g + 3, 0, none⟩) 4096 4096, .iface 42 (.pointer (some ⟨g + 1, 0, none⟩)), .int .i64 r, .int .i64 wv, e, .int .i64 lb, .int .i64 ls]
/-- The buffer holds bf, to be read from place r on. -/
def Buf (g r : Nat) (bf : List UInt8) (e : Value) (w : World) : Prop :=
  ∃ B lb ls, B.length = 4096 ∧ r + bf.length ≤ 4096 ∧ (B.drop r).take bf.length = bf ∧ SAt (g + 3) 5 (bcells B) w ∧ SAt (g + 2) 117 (brC g r (r + bf.length) e lb ls) w
/-- The reader under the buffer, its row not yet too long: un is still to come. -/
def RunS (g : Nat) (s : Nat × Bool) (un : List UInt8) (w : World) : Prop :=
  ∃ T i a b, T.length ≤ 1000000000 ∧ T.drop i = un ∧ SAt g 78 (srC T i) w ∧ SAt (g + 1) 68 (rlC g a b s .nilIface) w
theorem RunS.only {S : Nat → Prop} {g : Nat} {s : Nat × Bool} {un : List UInt8} {w w' : World} (h : RunS g s un w) (ho : Only S w w') (h0 : ¬ S g) (h1 : ¬ S (g + 1)) : RunS g s un w' := by
  obtain ⟨T, i, a, b, hT, hi, h2, h3⟩ := h
  exact ⟨T, i, a, b, hT, hi, ho.sat h2 h0, ho.sat h3 h1⟩
theorem Buf.only {S : Nat → Prop} {g r : Nat} {bf : List UInt8} {e : Value} {w w' : World} (h : Buf g r bf e w) (ho : Only S w w') (h0 : ¬ S (g + 2)) (h1 : ¬ S (g + 3)) : Buf g r bf e w' := by
  obtain ⟨B, lb, ls, h2, h3, h4, h5, h6⟩ := h
  exact ⟨B, lb, ls, h2, h3, h4, ho.sat h5 h1, ho.sat h6 h0⟩

/-- The four blocks. -/
def own (g : Nat) : Nat → Prop := fun k => g ≤ k ∧ k < g + 4

def FillPost (g : Nat) (eof : Value) (s : Nat × Bool) (bf un : List UInt8) (w : World) (e : Ending) (w' : World) : Prop :=
  e = .returned (.tuple #[]) ∧ Only (own g) w w' ∧
   ((un = [] ∧ RunS g (adv s bf) [] w' ∧ Buf g 0 bf eof w') ∨
    (∃ ch un', un = ch ++ un' ∧ 0 < ch.length ∧ RunS g (adv s (bf ++ ch)) un' w' ∧ Buf g 0 (bf ++ ch) .nilIface w' ∧ fits s (bf ++ ch)) ∨
    (∃ ch un' N, un = ch ++ un' ∧ w.heap.size ≤ N ∧ IsC N w' ∧ Buf g 0 (bf ++ ch) (.iface 99 (.pointer (some ⟨N, 0, none⟩))) w' ∧ fits s (bf ++ ch) ∧ 65536 < (adv s (bf ++ ch)).1 + lineLen un' ∧ 61440 < (adv s (bf ++ ch)).1))

/-- The buffer's block begins with x. -/
def Beg (g : Nat) (x : List UInt8) (w : World) : Prop := ∃ B, B.length = 4096 ∧ x.length ≤ 4096 ∧ B.take x.length = x ∧ SAt (g + 3) 5 (bcells B) w

/-- What the read under fill gives. -/
def FC (g : Nat) (eof : Value) (s : Nat × Bool) (bf un : List UInt8) (N0 n : Nat) (E : Value) (w1 : World) : Prop :=
  (un = [] ∧ n = 0 ∧ E = eof ∧ RunS g (adv s bf) [] w1 ∧ Beg g bf w1) ∨
  (E = .nilIface ∧ ∃ ch un', un = ch ++ un' ∧ ch.length = n ∧ 0 < n ∧ RunS g (adv s (bf ++ ch)) un' w1 ∧ fits s (bf ++ ch) ∧ Beg g (bf ++ ch) w1) ∨
  (∃ N ch un', E = .iface 99 (.pointer (some ⟨N, 0, none⟩)) ∧ un = ch ++ un' ∧ ch.length = n ∧ N0 ≤ N ∧ IsC N w1 ∧ fits s (bf ++ ch) ∧ 65536 < (adv s (bf ++ ch)).1 + lineLen un' ∧ 61440 < (adv s (bf ++ ch)).1 ∧ Beg g (bf ++ ch) w1)

theorem rl_fill (F : Interp) (g : Nat) (eof : Value) (s : Nat × Bool) (bf un : List UInt8) (L : Nat) (cs : List Value) (wc : World) (hF : F.answers wc.tape) (hE : wc.cell? ⟨0, 0, none⟩ = some eof)
    (hs : s.1 ≤ 65536) (hfit : fits s bf) (hr : RunS g (adv s bf) un wc) (hb : Beg g bf wc) (hL : bf.length = L) (hfull : L < 4096) (h2 : SAt (g + 2) 117 cs wc) :
    Calls Tryf.prog 21 #[.pointer (some ⟨g + 1, 0, none⟩), .slice (some ⟨g + 3, L, none⟩) (4096 - L) (4096 - L)] wc fun e w1 => ∃ (n : Nat) (E : Value), e = .returned (.tuple #[.int .i64 n, E]) ∧ L + n ≤ 4096 ∧ SAt (g + 2) 117 cs w1 ∧ Only (own g) wc w1 ∧ FC g eof s bf un wc.heap.size n E w1 := by
  obtain ⟨T, i, a, b, hT, hi, h0, h1⟩ := hr
  obtain ⟨B, hB4, hxl, hBx, hB⟩ := hb
  by_cases hun : un = []
  · have hTi : T.length ≤ i := by
      rw [hun] at hi
      exact List.drop_eq_nil_iff.1 hi
    refine (rl_end g T i (.slice (some ⟨g + 3, L, none⟩) (4096 - L) (4096 - L)) eof a b (adv s bf) wc hTi hT h0 h1 hE).mono ?_
    rintro e w1 ⟨rfl, kq, rfl⟩
    exact ⟨0, eof, rfl, by omega, h2, (Only.refl _ _).drewN _, .inl ⟨hun, rfl, rfl, ⟨T, i, a, b, hT, by rw [hi, hun], h0, h1⟩, ⟨B, hB4, hxl, hBx, hB⟩⟩⟩
  · have hTi : i < T.length := by
      rcases Nat.lt_or_ge i T.length with h | h
      · exact h
      · exact absurd (by rw [← hi]; exact List.drop_eq_nil_iff.2 h) hun
    have hrow := fits_le _ _ hfit hs
    refine (rl_calls F g T i L (4096 - L) (4096 - L) B a b (adv s bf) wc hF hTi hT hrow h0 h1 hB (by omega) hB4 (Nat.le_refl _)).mono ?_
    rintro e w1 ⟨hg1, hB1, ho1, hc⟩
    rw [hi] at hg1 hB1 hc
    obtain ⟨ch, hch⟩ : ∃ ch, un.take (4096 - L) = ch := ⟨_, rfl⟩
    rw [hch] at hg1 hB1 hc
    have hun' : un = ch ++ un.drop (4096 - L) := by rw [← hch, List.take_append_drop]
    have hcl : ch.length ≤ 4096 - L := by rw [← hch, List.length_take]; omega
    have hc0 : 0 < ch.length := by
      rw [← hch, List.length_take]
      have : 0 < un.length := List.length_pos_iff.2 hun
      omega
    have hbeg : ∀ c1 c2, ch = c1 ++ c2 → Beg g (bf ++ c1) w1 := by
      rintro c1 c2 rfl
      refine ⟨_, ?_, ?_, ?_, hB1⟩
      · simp only [List.length_append, List.length_take, List.length_drop] at hcl ⊢; omega
      · simp only [List.length_append] at hcl ⊢; omega
      · rw [← hL, hBx]
        simp only [List.append_assoc]
        rw [← List.append_assoc bf, List.take_append_of_le_length (Nat.le_refl _), List.take_of_length_le (Nat.le_refl _)]
    have hown : Only (own g) wc w1 := ho1.mono (fun k _ hk => by unfold own; omega)
    have h2' : SAt (g + 2) 117 cs w1 := ho1.sat h2 (by omega)
    rcases hc with ⟨rfl, hf, a', b', hL'⟩ | ⟨k, N, rfl, hN, hNc, hk, hf, ht⟩
    · refine ⟨ch.length, .nilIface, rfl, by omega, h2', hown, .inr (.inl ⟨rfl, ch, un.drop (4096 - L), hun', rfl, hc0, ?_, ?_, hbeg ch [] (by simp)⟩)⟩
      · refine ⟨T, i + ch.length, a', b', hT, ?_, hg1, by rw [adv_append]; exact hL'⟩
        rw [← List.drop_drop, hi]
        have : ch.length = min (4096 - L) un.length := by rw [← hch, List.length_take]
        rcases Nat.le_total (4096 - L) un.length with h | h
        · rw [this, Nat.min_eq_left h]
        · rw [this, Nat.min_eq_right h, List.drop_eq_nil_of_le (Nat.le_refl _), List.drop_eq_nil_of_le h]
      · rw [fits_append]; exact ⟨hfit, hf⟩
    · refine ⟨k, _, rfl, by omega, h2', hown, .inr (.inr ⟨N, ch.take k, ch.drop k ++ un.drop (4096 - L), rfl, ?_, ?_, hN, hNc, ?_, ?_, ?_, hbeg (ch.take k) (ch.drop k) (List.take_append_drop k ch).symm⟩)⟩
      · rw [← List.append_assoc, List.take_append_drop]; exact hun'
      · rw [List.length_take]; omega
      · rw [fits_append]; exact ⟨hfit, hf⟩
      · rw [adv_append]
        have := lineLen_append (ch.drop k) (un.drop (4096 - L))
        omega
      · rw [adv_append]
        have h1 := lineLen_le (ch.drop k)
        rw [List.length_drop] at h1
        omega

end Go.Proofs.Qxb6614395aFmt
