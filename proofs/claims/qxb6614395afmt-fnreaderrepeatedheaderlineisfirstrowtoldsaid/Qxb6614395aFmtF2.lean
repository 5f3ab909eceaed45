import Derived.Test.Qxb6614395aFmtE5
import Derived.Test.Qxb6614395aFmtF1
import Derived.Test.Qxb6614395aFmtQ6
import Derived.Lib.AppendStr
import Derived.Laws.MakeOwn
set_option linter.unusedSimpArgs false
set_option linter.unusedVariables false
namespace Go.Proofs.Qxb6614395aFmt
open Go Go.RowKit Go.Deep Go.Extern.Stop Go.Stop Go.Extern

theorem par_a : ∀ (n : Nat) (acc : List (List UInt8)) (cur : Option (List UInt8)) (ln : List UInt8) (s : Nat × Bool) (rest : List UInt8) (a b : Nat), ln.length + rest.length ≤ n → ∀ {flds a' b' s' rest'}, par acc cur ln s rest a b = .ok flds a' b' s' rest' → a' = a := by
  intro n
  induction n with
  | zero =>
    intro acc cur ln s rest a b hn flds a' b' s' rest' h
    have hl : ln = [] := List.eq_nil_of_length_eq_zero (by omega)
    subst hl
    cases cur with
    | none =>
      rw [par_last (by simp) (by simp) (by simp)] at h
      simp only [QRes.ok.injEq] at h
      exact h.2.1.symm
    | some c => rw [par_nil] at h; cases h
  | succ n ih =>
    intro acc cur ln s rest a b hn flds a' b' s' rest' h
    cases cur with
    | none =>
      by_cases h0 : ln.head? = some 34
      · rw [par_open h0] at h
        have hp : 0 < ln.length := by cases ln; simp at h0; simp
        exact ih _ _ _ _ _ _ _ (by rw [List.length_drop]; omega) h
      · by_cases h1 : 44 ∈ ln
        · by_cases h2 : 34 ∈ ln.take (idx ln 44)
          · rw [par_comma_bad h0 h1 h2] at h; cases h
          · rw [par_comma h0 h1 h2] at h
            have := idx_lt h1
            exact ih _ _ _ _ _ _ _ (by rw [List.length_drop]; omega) h
        · by_cases h2 : 34 ∈ ln.take (ln.length - nle ln)
          · rw [par_last_bad h0 h1 h2] at h; cases h
          · rw [par_last h0 h1 h2] at h
            simp only [QRes.ok.injEq] at h
            exact h.2.1.symm
    | some c =>
      by_cases h0 : 34 ∈ ln
      · have := idx_lt h0
        by_cases h1 : (ln.drop (idx ln 34 + 1)).head? = some 34
        · rw [par_two h0 h1] at h
          exact ih _ _ _ _ _ _ _ (by rw [List.length_drop, List.length_drop]; omega) h
        · by_cases h2 : (ln.drop (idx ln 34 + 1)).head? = some 44
          · rw [par_shut h0 h2] at h
            exact ih _ _ _ _ _ _ _ (by rw [List.length_drop, List.length_drop]; omega) h
          · by_cases h3 : ln.drop (idx ln 34 + 1) = [] ∨ ln.drop (idx ln 34 + 1) = [10]
            · rw [par_end h0 h3] at h
              simp only [QRes.ok.injEq] at h
              exact h.2.1.symm
            · rw [par_bad h0 h1 h2 h3] at h; cases h
      · by_cases h1 : ln = []
        · subst h1; rw [par_nil] at h; cases h
        · by_cases h2 : rest = []
          · subst h2; rw [par_eof h0] at h; cases h
          · by_cases h3 : 65536 < s.1 + lineLen rest
            · rw [par_trip h0 h3] at h; cases h
            · rw [par_more h0 h1 h2 (by omega)] at h
              have h4 := List.length_pos_iff.2 h1
              have h5 := norm_length (rest.take (lineLen rest))
              have h6 := lineLen_le rest
              rw [List.length_take] at h5
              exact ih _ _ _ _ _ _ _ (by rw [List.length_drop]; omega) h
theorem qx_ab : ∀ (n : Nat) (s : Nat × Bool) (rest : List UInt8) (b : Nat), rest.length ≤ n → ∀ {flds a' b' s' rest'}, qx s rest b = .ok flds a' b' s' rest' → a' ≤ b' := by
  intro n
  induction n with
  | zero =>
    intro s rest b hn flds a' b' s' rest' h
    rw [List.eq_nil_of_length_eq_zero (by omega : rest.length = 0), qx_nil] at h
    cases h
  | succ n ih =>
    intro s rest b hn flds a' b' s' rest' h
    by_cases h2 : rest = []
    · subst h2; rw [qx_nil] at h; cases h
    · by_cases h3 : 65536 < s.1 + lineLen rest
      · rw [qx_trip h3] at h; cases h
      · have h7 := lineLen_pos (List.length_pos_iff.2 h2)
        have h8 := List.length_pos_iff.2 h2
        by_cases h4 : norm (rest.take (lineLen rest)) = [] ∨ norm (rest.take (lineLen rest)) = [10]
        · rw [qx_skip h2 (by omega) h4] at h
          exact ih _ _ _ (by rw [List.length_drop]; omega) h
        · rw [qx_rec h2 (by omega) h4] at h
          have h1 := par_a _ _ _ _ _ _ _ _ (Nat.le_refl _) h
          have h2 := par_le _ _ _ _ _ _ _ _ (Nat.le_refl _) h
          omega

theorem Made.only {S : Nat → Prop} {g : Nat} {T : List UInt8} {what hd : Value} {w w' : World} (h : Made g T what hd w) (ho : Only S w w') (hS : ∀ k, ownT g cv0 k → ¬ S k) : Made g T what hd w' := by
  have o : ∀ k, own g k → ¬ S k := fun k hk => hS k (.inl (.inl hk))
  exact ⟨h.buf.only ho (o _ (by unfold own; omega)) (o _ (by unfold own; omega)), h.run.only ho (o _ (by unfold own; omega)) (o _ (by unfold own; omega)), ho.sat h.csv (hS _ (.inl (.inr (.inl rfl)))), ho.sat h.tab (hS _ (.inr rfl))⟩
theorem RdSt.only {S : Nat → Prop} {g : Nat} {bE : Addr} {what hd : Value} {c : CV} {s : Nat × Bool} {rest : List UInt8} {w w' : World} (h : RdSt g bE what hd c s rest w) (ho : Only S w w') (hS : ∀ k, ownT g c k → ¬ S k) : RdSt g bE what hd c s rest w' := by
  obtain ⟨r, h1⟩ := h.src
  obtain ⟨b1, b2, b3, h2⟩ := h.rows
  exact ⟨ho.sat h.tab (hS _ (.inr rfl)), ⟨r, h1.only ho (fun k hk => hS k (.inl (.inl hk)))⟩, ⟨b1, b2, b3, h2.only ho (fun k hk => hS k (.inl (.inr hk)))⟩⟩

/-- A reader that will go on with rest: it has read nothing yet, or the header and more. -/
def RS (g : Nat) (bE : Addr) (what hd : Value) (hdr : List (List UInt8)) (c : CV) (nl : Nat) (s : Nat × Bool) (rest : List UInt8) (w : World) : Prop :=
  (RdSt g bE what hd c s rest w ∧ c.nl = nl ∧ nl + rest.length ≤ 1000000) ∨
  (∃ T a, Made g T what hd w ∧ g + 6 ≤ w.heap.size ∧ Hdr w g hd hdr ∧ c = cv0 ∧ T.take 3 ≠ mark ∧ T.length ≤ 1000000 ∧ qx (0, false) T 0 = .ok hdr a nl s rest)
theorem RS.only {S : Nat → Prop} {g : Nat} {bE : Addr} {what hd : Value} {hdr : List (List UInt8)} {c : CV} {nl : Nat} {s : Nat × Bool} {rest : List UInt8} {w w' : World} (h : RS g bE what hd hdr c nl s rest w) (ho : Only S w w') (hS : ∀ k, ownT g c k → ¬ S k) (hg : ∀ k, k < g → ¬ S k) : RS g bE what hd hdr c nl s rest w' := by
  rcases h with ⟨h1, h2⟩ | ⟨T, a, h1, h2, h3, rfl, h4⟩
  · exact .inl ⟨h1.only ho hS, h2⟩
  · exact .inr ⟨T, a, h1.only ho hS, Nat.le_trans h2 ho.size, h3.only ho hg, rfl, h4⟩
theorem ownT0 {g k : Nat} (h : ownT g cv0 k) : g ≤ k ∧ k < g + 6 := by
  rcases h with h | h
  · rcases ownR0 h with h | h
    · unfold own at h; omega
    · omega
  · omega
theorem RS.ins {g : Nat} {bE : Addr} {what hd : Value} {hdr : List (List UInt8)} {c : CV} {nl : Nat} {s : Nat × Bool} {rest : List UInt8} {w : World} (h : RS g bE what hd hdr c nl s rest w) : ∀ k, ownT g c k → g ≤ k ∧ k < w.heap.size := by
  rcases h with ⟨h1, h2⟩ | ⟨T, a, h1, h2, h3, rfl, h4⟩
  · obtain ⟨b1, b2, b3, h⟩ := h1.rows
    obtain ⟨n1, x1, g1⟩ := h.raw
    obtain ⟨n2, g2⟩ := h.pos
    obtain ⟨n3, x3, g3⟩ := h.last
    have hz := h.size
    intro k hk
    rcases hk with (h' | h' | h' | h' | h' | h' | h') | h'
    · unfold own at h'; omega
    · omega
    · have := g1.lt k h'; omega
    · have := h.rbuf.lt k h'; omega
    · have := h.idx.lt k h'; omega
    · have := g2.lt k h'; omega
    · have := g3.lt k h'; omega
    · omega
  · intro k hk
    have := ownT0 hk
    omega
theorem rsq_calls (F : Interp) (g : Nat) (bE bF : Addr) (what : ByteArray) (hd : Value) (hdr : List (List UInt8)) (c : CV) (nl : Nat) (s : Nat × Bool) (rest : List UInt8) (w : World) (hE : EnvW F g bE bF w) (h : RS g bE (.string what) hd hdr c nl s rest w) (hwh : what.size ≤ 1000000) (hn : hdr.length ≤ 1000000) (hl : hdr.flatten.length ≤ 1000000) :
    Calls Tryf.prog 11 #[.pointer (some ⟨g + 5, 0, none⟩)] w fun e w' => ∃ q m qc ln E, e = .returned (.tuple #[.slice q m qc, .int .i64 ln, E]) ∧ Hid (RDQ g bE (.string what) hd c nl (qx s rest 0) w e w') := by
  have key : Calls Tryf.prog 11 #[.pointer (some ⟨g + 5, 0, none⟩)] w (RDQ g bE (.string what) hd c nl (qx s rest 0) w) := by
    rcases h with ⟨h1, rfl, h2⟩ | ⟨T, a, h1, h2, h3, rfl, h4, h5, h6⟩
    · exact readq_calls F g bE bF (.string what) hd c s rest w hE h1 h2
    · exact readq0_calls F g bE bF T what hd hdr a nl s rest w hE h1 h2 h3 hwh hn hl h4 h5 h6
  refine key.mono ?_
  rintro e w' h
  have h' := h
  rcases h with ⟨-, t, v, he, -⟩ | ⟨flds, a, b, s, rest, c, bk, cap, -, he, -⟩
  · exact ⟨_, _, _, _, _, he, h'⟩
  · exact ⟨_, _, _, _, _, he, h'⟩

theorem RdSt.ins {g : Nat} {bE : Addr} {what hd : Value} {c : CV} {s : Nat × Bool} {rest : List UInt8} {w : World} (h : RdSt g bE what hd c s rest w) : ∀ k, ownT g c k → g ≤ k ∧ k < w.heap.size := by
  obtain ⟨b1, b2, b3, h⟩ := h.rows
  obtain ⟨n1, x1, g1⟩ := h.raw
  obtain ⟨n2, g2⟩ := h.pos
  obtain ⟨n3, x3, g3⟩ := h.last
  have hz := h.size
  intro k hk
  rcases hk with (h' | h' | h' | h' | h' | h' | h') | h'
  · unfold own at h'; omega
  · omega
  · have := g1.lt k h'; omega
  · have := h.rbuf.lt k h'; omega
  · have := h.idx.lt k h'; omega
  · have := g2.lt k h'; omega
  · have := g3.lt k h'; omega
  · omega
/-- The two readers, the second one line ahead; k: the rounds so far. -/
def Inv4 (g1 g2 : Nat) (bE : Addr) (what hd : Value) (hdr : List (List UInt8)) (w0 : World) (T : List UInt8) (k : Nat) (w : World) : Prop :=
  ∃ c1 c2 s rest nl, RS g1 bE what hd hdr c1 nl s rest w ∧ RdSt g2 bE what hd c2 s rest w ∧ c2.nl = nl + 1 ∧ nl + 1 + rest.length ≤ 1000000 ∧ (∀ j, ownT g1 c1 j → ¬ ownT g2 c2 j) ∧ Only (fun _ => False) w0 w ∧ k + rest.length ≤ T.length
theorem Inv4.quiet {g1 g2 : Nat} {bE : Addr} {what hd : Value} {hdr : List (List UInt8)} {w0 : World} {T : List UInt8} {k : Nat} {w w' : World} (h : Inv4 g1 g2 bE what hd hdr w0 T k w) (hq : Quiet w w') : Inv4 g1 g2 bE what hd hdr w0 T k w' := by
  obtain ⟨c1, c2, s, rest, nl, h1, h2, h3, h4, h5, h6, h7⟩ := h
  have h0 : Only (fun _ => False) w w' := hq.only _
  exact ⟨c1, c2, s, rest, nl, h1.only h0 (fun _ _ h => h) (fun _ _ h => h), h2.only h0 (fun _ _ h => h), h3, h4, h5, h6.quiet hq, h7⟩

/-- What the law gives. -/
def LawQ (w : World) (e : Ending) (w' : World) : Prop := e = .returned (.bool true) ∧ Only (fun _ => False) w w'

theorem only_grown {w0 w w' : World} {b : Option Nat} (h : Only (fun _ => False) w0 w) (hg : w.grownBy w' b) (hb : ∀ k, b = some k → w0.heap.size ≤ k) : Only (fun _ => False) w0 w' := by
  have hblk : ∀ k, k < w0.heap.size → w'.heap[k]? = w.heap[k]? := fun k hk => hg.block k (by have := h.size; omega) (fun e => by have := hb k e.symm; omega)
  refine ⟨hg.os.trans h.os, hg.tape.trans h.tape, hg.output.trans h.output, Nat.le_trans h.size hg.size, fun k hk hn => (hblk k hk).trans (h.block k hk hn), fun k hk => ?_⟩
  exact (h.cells k hk).same (hblk k hk.lt)
/-- A row of bytes of the call's own. -/
def LB (w0 w : World) (v : Value) (l : List UInt8) : Prop := w.ownsRow w0.heap.size 5 1 v l.length (bcells l) ∧ Only (fun _ => False) w0 w
theorem lb_make (w : World) (c : Nat) (hc : c ≤ 1000000) : ∃ w', (Instr.makeSlice 36 (.int .i64 0) (.int .i64 (c : Int))).run Tryf.prog w = .ok (.slice (some ⟨w.heap.size, 0, none⟩) 0 c) w' ∧ LB w w' (.slice (some ⟨w.heap.size, 0, none⟩) 0 c) [] := by
  obtain ⟨i, hi, hzz⟩ := Option.map_eq_some_iff.1 infoB
  simp only [Prod.mk.injEq] at hzz
  obtain ⟨hz, hs, hb⟩ := hzz
  obtain ⟨w', h1, h2, h3⟩ := run_make_own (P := Tryf.prog) w w.heap.size 36 5 i _ 1 Tryf.underlying36 hi hz hs .i64 .i64 c (by rw [hb]; omega) (by unfold maxLen; omega) (Nat.le_refl _)
  exact ⟨w', h1, h2, only_grown (Only.refl _ _) h3 (fun k h => by cases h)⟩
theorem LB.shape {w0 w : World} {v : Value} {l : List UInt8} (h : LB w0 w v l) : ∃ p cp, v = .slice p l.length cp := by
  rcases h.1.2 with ⟨h1, h2⟩ | ⟨b, cp, cur, h1, -⟩
  · exact ⟨none, 0, by rw [h1, h2]⟩
  · exact ⟨_, cp, h1⟩
theorem lb_str {w0 w : World} {v : Value} {l : List UInt8} (h : LB w0 w v l) (x : List UInt8) (ty : TypeId) (hn : l.length + x.length ≤ 1000000) : ∃ v' w', (Builtin.append_ #[36, 9] ty #[v, .string (str x)]).run Tryf.prog w = .ok v' w' ∧ LB w0 w' v' (l ++ x) := by
  obtain ⟨i, hi, hzz⟩ := Option.map_eq_some_iff.1 infoB
  simp only [Prod.mk.injEq] at hzz
  obtain ⟨hz, hs, hb⟩ := hzz
  obtain ⟨v', w', h1, h2, h3, -⟩ := Lib.run_append_own_string (P := Tryf.prog) w w0.heap.size 36 9 ty 5 i Tryf.underlying36 Tryf.underlying9 hi hz hs hb v l.length (bcells l) h.1 (str x) (by rw [str_size]; unfold maxLen; omega) (by rw [str_size]; omega) h.2.size
  refine ⟨v', w', h1, ?_, only_grown h.2 h3 (fun k hk => (h.1.lt k hk).1)⟩
  rw [str_size] at h2
  rw [List.length_append, bcells_append]
  exact h2
theorem lb_one {w0 w : World} {v : Value} {l : List UInt8} (h : LB w0 w v l) (b : UInt8) (ty : TypeId) (hn : l.length + 1 ≤ 1000000) : ∃ v' w', (Builtin.append_ #[36, 36] ty #[v, .slice (some ⟨w.heap.size, 0, none⟩) 1 1]).run Tryf.prog (w.alloc (.cells #[.int .u8 (b.toNat : Int)] 5)) = .ok v' w' ∧ LB w0 w' v' (l ++ [b]) := by
  have hX : Only (fun _ => False) w (w.alloc (.cells #[.int .u8 (b.toNat : Int)] 5)) := (Only.refl _ _).alloc _
  have hseg : Seg (w.alloc (.cells #[.int .u8 (b.toNat : Int)] 5)) w.heap.size 0 [b] := by
    intro i hi
    have : i = 0 := by simp at hi; omega
    subst this
    exact (SAt.new w [.int .u8 (b.toNat : Int)] 5).cell rfl
  obtain ⟨v', w', h1, h2, h3⟩ := append_bytes w0.heap.size (w.alloc (.cells #[.int .u8 (b.toNat : Int)] 5)) ty v l.length (bcells l) (ownsRow_only h.1 hX (fun _ _ h => h)) w.heap.size 0 1 1 [b] rfl hseg (by omega) (Nat.le_trans h.2.size hX.size)
  refine ⟨v', w', h1, ?_, h3.only (h.2.trans hX (fun _ _ h => h)) (fun k hk => .inr (h.1.lt k hk).1)⟩
  rw [List.length_append, bcells_append]
  exact h2
theorem lb_lit {w0 w : World} {v : Value} {l : List UInt8} (h : LB w0 w v l) (b : UInt8) (k : Int) (hk : (b.toNat : Int) = k) (ty : TypeId) (hn : l.length + 1 ≤ 1000000) : ∃ v' w', (Builtin.append_ #[36, 36] ty #[v, .slice (some ⟨w.heap.size, 0, none⟩) 1 1]).run Tryf.prog (w.alloc (.cells #[.int .u8 k] 5)) = .ok v' w' ∧ LB w0 w' v' (l ++ [b]) := by
  subst hk
  exact lb_one h b ty hn
/-- append, its run known, of whatever types. -/
theorem wpl_append_run2 {w : World} {ops : Array Oper} {rest : List Oper} {o : Oper} {a : Act} {Q : Exit → Act → World → Prop} (hgd : o.guard = none) (s x : Operand) (t u : TypeId)
    (ho : o.op = .call { callee := .builtin .append, args := #[s, x], argTypes := #[t, u] }) (v y : Value) (hs : a.eval s = v) (hx : a.eval x = y) (v' : Value) (w' : World)
    (hr : (Builtin.append_ #[t, u] o.type #[v, y]).run Tryf.prog w = .ok v' w') (h : wpList Tryf.prog ops Q rest (a.put o.dst v') w') : wpList Tryf.prog ops Q (o :: rest) a w := by
  refine wpList_plain hgd fun K hK => ?_
  unfold Oper.wp execOp
  simp only [ho, resolve, invoke, builtin, Sem.run_bind, Sem.run_pure, Result.andThen_ok, List.map_toArray, List.map_cons, List.map_nil, hs, hx, hr]
  exact hK _ _ h
end Go.Proofs.Qxb6614395aFmt
