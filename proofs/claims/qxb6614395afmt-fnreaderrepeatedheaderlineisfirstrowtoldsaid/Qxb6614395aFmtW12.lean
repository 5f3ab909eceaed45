import Derived.Test.Qxb6614395aFmtW11
set_option linter.unusedSimpArgs false
set_option linter.unusedVariables false
namespace Go.Proofs.Qxb6614395aFmt
open Go Go.RowKit Go.Deep Go.Extern.Stop Go.Stop Go.Extern
attribute [local go_sem] str_size str_get str_extract str_toList str_append

/-- The blocks that readLine may change. -/
def ownL (g : Nat) (raw : Value) : Nat → Prop := fun k => own g k ∨ k = g + 4 ∨ raw.ownBlock = some k

/-- Where a line lies: in the buffer, or in the raw buffer. -/
def Lies (g : Nat) (c : CV) (w : World) (lb lo n : Nat) (x : List UInt8) (q : Nat) (raw : Value) (wr : World) : Prop :=
  n ≤ 2000000 ∧ x.length = n ∧ Seg wr lb lo x ∧ SAt (g + 4) 76 (csvC g { c with raw := raw }) wr ∧ Only (ownL g c.raw) w wr ∧ (raw.ownBlock = c.raw.ownBlock ∨ ∃ k, raw.ownBlock = some k ∧ w.heap.size ≤ k) ∧
  ((lb = g + 3 ∧ q = lo + n ∧ ∃ n' xs', wr.ownsRow (g + 6) 5 1 raw n' xs') ∨ (raw.ownBlock = some lb ∧ lo = 0 ∧ wr.ownsRow (g + 6) 5 1 raw n (bcells x)))

def MidL (g : Nat) (c : CV) (bE bF : Addr) (s : Nat × Bool) (rest : List UInt8) (w : World) (v4 v5 : Value) (wr : World) : Prop :=
  ∃ lb lo n cap x q raw, v4 = .slice (some ⟨lb, lo, none⟩) n cap ∧ n ≤ cap ∧ Lies g c w lb lo n x q raw wr ∧ LC g (tripA bE) (tripA bF) s rest x q v5 wr ∧ v5 ≠ tripA bF

/-- The loop that gathers a long line. -/
def GatherP (g : Nat) (c : CV) (bE bF : Addr) (s : Nat × Bool) (rest : List UInt8) (w : World) (acc : List UInt8) (raw E : Value) (wr : World) : Prop :=
  0 < acc.length ∧ acc.length ≤ rest.length + 4096 ∧ wr.ownsRow (g + 6) 5 1 raw acc.length (bcells acc) ∧ SAt (g + 4) 76 (csvC g { c with raw := raw }) wr ∧ Only (ownL g c.raw) w wr ∧ (raw.ownBlock = c.raw.ownBlock ∨ ∃ k, raw.ownBlock = some k ∧ w.heap.size ≤ k) ∧ LC g (tripA bE) (tripA bF) s rest acc 0 E wr

/-- What readLine gives. -/
def RdC (g : Nat) (bE : Addr) (s : Nat × Bool) (rest ln : List UInt8) (E : Value) (w : World) : Prop :=
  (rest ≠ [] ∧ E = .nilIface ∧ s.1 + lineLen rest ≤ 65536 ∧ ln = norm (rest.take (lineLen rest)) ∧ ∃ r, Src g (tripA bE) (adv s (rest.take (lineLen rest))) (rest.drop (lineLen rest)) r w) ∨
  (rest = [] ∧ E = tripA bE ∧ ln = [] ∧ ∃ r, Src g (tripA bE) s [] r w) ∨
  (∃ N, E = tripE N ∧ g + 6 ≤ N ∧ IsC N w ∧ (∀ b ∈ ln, b ∈ rest) ∧ 65536 < s.1 + lineLen rest)
def RdPost (g : Nat) (c : CV) (bE : Addr) (s : Nat × Bool) (rest : List UInt8) (w : World) (e : Ending) (w' : World) : Prop :=
  ∃ (lb lo n cap : Nat) (ln : List UInt8) (E raw : Value) (off : Int), e = .returned (.tuple #[.slice (some ⟨lb, lo, none⟩) n cap, E]) ∧ n ≤ cap ∧ ln.length = n ∧ n ≤ 2000000 ∧ Seg w' lb lo ln ∧ (lb = g + 3 ∨ raw.ownBlock = some lb) ∧ (∃ n' xs', w'.ownsRow (g + 6) 5 1 raw n' xs') ∧
    SAt (g + 4) 76 (csvC g { c with nl := c.nl + 1, off := off, raw := raw }) w' ∧ Only (ownL g c.raw) w w' ∧ (raw.ownBlock = c.raw.ownBlock ∨ ∃ k, raw.ownBlock = some k ∧ w.heap.size ≤ k) ∧ RdC g bE s rest ln E w'

theorem RdC.only {S : Nat → Prop} {g : Nat} {bE : Addr} {s : Nat × Bool} {rest ln : List UInt8} {E : Value} {w w' : World} (h : RdC g bE s rest ln E w) (ho : Only S w w') (hS : ∀ k, own g k → ¬ S k) : RdC g bE s rest ln E w' := by
  rcases h with ⟨h1, h2, h3, h4, r, h5⟩ | ⟨h1, h2, h3, r, h5⟩ | ⟨N, h1, h2, h3, h4⟩
  · exact .inl ⟨h1, h2, h3, h4, r, h5.only ho hS⟩
  · exact .inr (.inl ⟨h1, h2, h3, r, h5.only ho hS⟩)
  · exact .inr (.inr ⟨N, h1, h2, ho.cells _ h3, h4⟩)

theorem line_get : ∀ {l : List UInt8}, 10 ∈ l → ∃ p, l.take (lineLen l) = p ++ [10] ∧ 10 ∉ p
  | [], h => by simp at h
  | b :: t, h => by
    unfold lineLen
    by_cases e : b = 10
    · exact ⟨[], by simp [e], by simp⟩
    · rw [if_neg e]
      have : 10 ∈ t := by simpa [Ne.symm e] using h
      obtain ⟨p, h1, h2⟩ := line_get this
      exact ⟨b :: p, by simp [h1], by simp [h2, Ne.symm e]⟩

/-- The end of readLine, nothing written into the line. -/
theorem rd_fin {g : Nat} {bE : Addr} {c : CV} {s : Nat × Bool} {rest : List UInt8} {w wc : World} {lb lo n cap q : Nat} {x : List UInt8} {raw : Value} (hl : Lies g c w lb lo n x q raw wc) (hnc : n ≤ cap) (k : Nat) (hk : k ≤ n) {y : Int} (hy : y = ((c.nl + 1 : Nat) : Int)) (off : Int) (E : Value)
    (hr : RdC g bE s rest (x.take k) E wc) : RdPost g c bE s rest w (.returned (.tuple #[.slice (some ⟨lb, lo, none⟩) k cap, E])) ((wc.setCell ⟨g + 4, 8, none⟩ (.int .i64 y)).setCell ⟨g + 4, 9, none⟩ (.int .i64 off)) := by
  subst hy
  obtain ⟨h1, h2, h3, h4, h5, h6, h7⟩ := hl
  have hW : Only (fun k => k = g + 4) wc ((wc.setCell ⟨g + 4, 8, none⟩ (.int .i64 ((c.nl + 1 : Nat) : Int))).setCell ⟨g + 4, 9, none⟩ (.int .i64 off)) := ((Only.refl (fun k => k = g + 4) _).setCell (.inl rfl) _).setCell (.inl rfl) _
  have hlb : lb ≠ g + 4 := by
    rcases h7 with ⟨h, -⟩ | ⟨h, -, h8⟩
    · omega
    · have := (h8.lt lb h).1; omega
  refine ⟨lb, lo, k, cap, x.take k, E, raw, off, rfl, by omega, by rw [List.length_take]; omega, by omega, ?_, ?_, ?_, ?_, ?_, h6, hr.only hW (fun j hj h => by unfold own at hj; omega)⟩
  · exact (h3.take k).of_block ((blk_setCell_other _ _ _ _ (by simpa using hlb)).trans (blk_setCell_other _ _ _ _ (by simpa using hlb)))
  · rcases h7 with ⟨h, -⟩ | ⟨h, -⟩
    · exact .inl h
    · exact .inr h
  · rcases h7 with ⟨-, -, n', xs', h⟩ | ⟨-, -, h⟩
    · exact ⟨n', xs', ownsRow_only h hW (fun k hk h' => by have := (h.lt k hk).1; omega)⟩
    · exact ⟨_, _, ownsRow_only h hW (fun k hk h' => by have := (h.lt k hk).1; omega)⟩
  · exact (h4.set 8 _).set' 9 _ (by simp [csvC])
  · exact h5.trans hW (fun k _ hk => .inr (.inl hk))

/-- The end of readLine, CR LF made LF. -/
theorem rd_fin_crlf {g : Nat} {bE : Addr} {c : CV} {s : Nat × Bool} {rest : List UInt8} {w wc : World} {lb lo n cap q : Nat} {x : List UInt8} {raw : Value} (hl : Lies g c w lb lo n x q raw wc) (hnc : n ≤ cap) (h2n : 2 ≤ n) {y : Int} (hy : y = ((c.nl + 1 : Nat) : Int)) (off : Int)
    (hne : rest ≠ []) (hfit : s.1 + lineLen rest ≤ 65536) (hx : x = rest.take (lineLen rest)) (r : Nat) (hqr : q ≤ r) (hsr : Src g (tripA bE) (adv s x) (rest.drop (lineLen rest)) r wc) (hnm : norm x = x.take (n - 2) ++ [10]) :
    RdPost g c bE s rest w (.returned (.tuple #[.slice (some ⟨lb, lo, none⟩) (n - 1) cap, .nilIface])) (((wc.setCell ⟨g + 4, 8, none⟩ (.int .i64 y)).setCell ⟨g + 4, 9, none⟩ (.int .i64 off)).setCell ⟨lb, lo + (n - 2), none⟩ (.int .u8 10)) := by
  subst hy
  obtain ⟨h1, h2, h3, h4, h5, h6, h7⟩ := hl
  have hW : Only (fun k => k = g + 4) wc ((wc.setCell ⟨g + 4, 8, none⟩ (.int .i64 ((c.nl + 1 : Nat) : Int))).setCell ⟨g + 4, 9, none⟩ (.int .i64 off)) := ((Only.refl (fun k => k = g + 4) _).setCell (.inl rfl) _).setCell (.inl rfl) _
  have hlb : lb ≠ g + 4 := by
    rcases h7 with ⟨h, -⟩ | ⟨h, -, h8⟩
    · omega
    · have := (h8.lt lb h).1; omega
  obtain ⟨W, hWe⟩ : ∃ W, (wc.setCell ⟨g + 4, 8, none⟩ (.int .i64 ((c.nl + 1 : Nat) : Int))).setCell ⟨g + 4, 9, none⟩ (.int .i64 off) = W := ⟨_, rfl⟩
  have hcW : SAt (g + 4) 76 (csvC g { c with nl := c.nl + 1, off := off, raw := raw }) W := by rw [← hWe]; exact (h4.set 8 _).set' 9 _ (by simp [csvC])
  rw [hWe] at hW ⊢
  have hsW : Seg W lb lo x := h3.of_block (hW.block _ (by
    have := h3 0 (by omega)
    exact World.block_lt_of_cell? wc _ this) hlb)
  have hsrW := hsr.only hW (fun j hj h => by unfold own at hj; omega)
  have hL : Only (fun k => k = lb) W (W.setCell ⟨lb, lo + (n - 2), none⟩ (.int .u8 10)) := (Only.refl (fun k => k = lb) _).setCell (.inl rfl) _
  refine ⟨lb, lo, n - 1, cap, x.take (n - 2) ++ [10], .nilIface, raw, off, rfl, by omega, by rw [List.length_append, List.length_take]; simp; omega, by omega, ?_, ?_, ?_, hL.sat hcW (fun h => hlb h.symm), ?_, h6, .inl ⟨hne, rfl, hfit, by rw [← hx, hnm], ?_⟩⟩
  · intro i hi
    have hlt : (x.take (n - 2)).length = n - 2 := by rw [List.length_take]; omega
    rw [List.length_append, hlt] at hi
    simp at hi
    by_cases hi2 : i = n - 2
    · subst hi2
      rw [List.getElem_append_right (by omega)]
      simp [hlt]
      have hc := hsW (n - 2) (by omega)
      simp [go_sem, hc]
    · rw [List.getElem_append_left (by omega)]
      have hc := hsW i (by omega)
      have hne' : lo + i ≠ lo + (n - 2) := by omega
      simp [go_sem, hc, hne']
  · rcases h7 with ⟨h, -⟩ | ⟨h, -⟩
    · exact .inl h
    · exact .inr h
  · rcases h7 with ⟨hg3, -, n', xs', h⟩ | ⟨hob, hlo, h⟩
    · exact ⟨n', xs', ownsRow_only (ownsRow_only h hW (fun k hk h' => by have := (h.lt k hk).1; omega)) hL (fun k hk h' => by have := (h.lt k hk).1; omega)⟩
    · obtain ⟨bk, cp, rfl, -, -⟩ := h.form (by omega)
      simp only [Value.ownBlock, Option.some.injEq] at hob
      subst hob
      have hW' := ownsRow_only h hW (fun k hk h' => by have := (h.lt k hk).1; omega)
      exact ⟨_, _, (hW'.stored (lo + (n - 2)) (.int .u8 10)).1⟩
  · refine (h5.trans hW (fun k _ hk => .inr (.inl hk))).trans hL (fun k hk he => ?_)
    subst he
    rcases h7 with ⟨hg3, -⟩ | ⟨hob, -⟩
    · exact .inl (by unfold own; omega)
    · rcases h6 with h6 | ⟨k', h6, hk'⟩
      · exact .inr (.inr (by rw [← h6]; exact hob))
      · rw [h6] at hob
        simp at hob
        omega
  · rw [← hx]
    rcases h7 with ⟨hg3, hqe, -⟩ | ⟨hob, -, h⟩
    · subst hg3
      exact ⟨r, hsrW.over (lo + (n - 2)) (by omega) 10⟩
    · exact ⟨r, hsrW.only hL (fun j hj he => by have := (h.lt lb hob).1; unfold own at hj; omega)⟩

/-- append, its run known. -/
theorem wpl_append_run {w : World} {ops : Array Oper} {rest : List Oper} {o : Oper} {a : Act} {Q : Exit → Act → World → Prop} (hgd : o.guard = none) (s x : Operand) (t : TypeId)
    (ho : o.op = .call { callee := .builtin .append, args := #[s, x], argTypes := #[t, t] }) (v u : Value) (hs : a.eval s = v) (hx : a.eval x = u) (v' : Value) (w' : World)
    (hr : (Builtin.append_ #[t, t] o.type #[v, u]).run Tryf.prog w = .ok v' w') (h : wpList Tryf.prog ops Q rest (a.put o.dst v') w') : wpList Tryf.prog ops Q (o :: rest) a w := by
  refine wpList_plain hgd fun K hK => ?_
  unfold Oper.wp execOp
  simp only [ho, resolve, invoke, builtin, Sem.run_bind, Sem.run_pure, Result.andThen_ok, List.map_toArray, List.map_cons, List.map_nil, hs, hx, hr]
  exact hK _ _ h

set_option maxHeartbeats 1600000 in
set_option maxRecDepth 20000 in
theorem rdl_calls (F : Interp) (g : Nat) (c : CV) (bE bF : Addr) (s : Nat × Bool) (rest : List UInt8) (r n0 : Nat) (xs0 : List Value) (w : World) (hF : F.answers w.tape) (hS : Sent g bE bF w) (hsz : g + 6 ≤ w.heap.size) (hlen : rest.length ≤ 1000000)
    (hnl : c.nl ≤ 3000000) (hsrc : Src g (tripA bE) s rest r w) (hc : SAt (g + 4) 76 (csvC g c) w) (hraw : w.ownsRow (g + 6) 5 1 c.raw n0 xs0) :
    Calls Tryf.prog 51 #[.pointer (some ⟨g + 4, 0, none⟩)] w (RdPost g c bE s rest w) := by
  have cRS := rs_calls F g (tripA bE) (tripA bF) s rest r w hF hS.e hS.f hS.g10 ⟨_, _, rfl⟩ hsz hsrc
  have c7 := hc.cell (i := 7) rfl
  have hne := hS.ne
  have heg := hS.eg
  have hfg := hS.fg
  have hg10 := hS.g10
  have HS := hid_of hS
  have HC := hid_of hc
  have HRAW := hid_of hraw
  clear hS hsrc hc hraw
  go_enter Tryf.func51, Tryf.ntmps51
  go_upto_region 2 with (go_at_call 71; go_fit cRS; rintro e w1 ⟨o, n, cap, x, E, rfl, hnc, hxn, hn4, hseg, ho, hrsc⟩)
  have hS1 : Sent g bE bF w1 := HS.out.only ho (fun k hk h => by unfold own at h; omega)
  have hF1 : w1.cell? ⟨7, 0, none⟩ = some (.iface 99 (.pointer (some bF))) := hS1.f
  go_cut [18] from 16 to 17 (fun v18 wr => (∃ bb : Bool, v18 = .bool bb ∧ (bb = true ↔ E = tripA bF)) ∧ wr = w1)
  case first =>
    rcases hrsc with ⟨rfl, -⟩ | ⟨rfl, -⟩ | ⟨rfl, -⟩ | ⟨N, rfl, hN, hNc, -⟩
    · have hq := eql_nil w1 bF
      go_wp2_with fail
      go_meet
      exact ⟨⟨_, rfl, by simp [tripE, tripA]⟩, rfl⟩
    · have hq := eql_same w1 bF
      simp only [tripE, tripA]
      go_wp2_with fail
      go_meet
      exact ⟨⟨_, rfl, by simp⟩, rfl⟩
    · have hq := eql_other w1 bE bF hne hS1.ce hS1.cf
      simp only [tripE, tripA]
      go_wp2_with fail
      go_meet
      exact ⟨⟨_, rfl, by simp [tripE, tripA, hne]⟩, rfl⟩
    · have hNF : (⟨N, 0, none⟩ : Addr) ≠ bF := trip_ne hfg (by omega)
      have hq := eql_other w1 ⟨N, 0, none⟩ bF hNF hNc hS1.cf
      simp only [tripE, tripA]
      go_wp2_with fail
      go_meet
      exact ⟨⟨_, rfl, by simp [tripE, tripA, hNF]⟩, rfl⟩
  case rest =>
  obtain ⟨⟨bb, rfl, hbb⟩, hw⟩ := hcut
  have hw' := hw.symm
  subst hw'
  clear hw
  go_upto_if 18 with fail
  have hSg4 : ∀ k, own g k → ownL g c.raw k := fun k h => .inl h
  have hc1 : SAt (g + 4) 76 (csvC g c) w1 := ho.sat HC.out (by unfold own; omega)
  have hraw1 : w1.ownsRow (g + 6) 5 1 c.raw n0 xs0 := ownsRow_only HRAW.out ho (fun k hk h => by have := (HRAW.out.lt k hk).1; unfold own at h; omega)
  have hlies : Hid (Lies g c w (g + 3) o n x (o + n) c.raw w1) := ⟨by omega, hxn, hseg, hc1, ho.mono (fun k _ h => .inl h), .inl rfl, .inl ⟨rfl, rfl, n0, xs0, hraw1⟩⟩
  go_cut [4, 5] from 19 to 52 (fun v4 v5 wr => MidL g c bE bF s rest w v4 v5 wr)
  case first =>
    cases bb with
    | false =>
      have hEF : E ≠ tripA bF := fun h => by have := hbb.2 h; cases this
      go_wp2_with fail
      go_meet
      exact ⟨g + 3, o, n, cap, x, o + n, c.raw, rfl, hnc, hlies.out, by have := hrsc.lc; rw [hxn] at this; exact this, hEF⟩
    | true =>
      have hEF : E = tripA bF := hbb.1 rfl
      have hEF0 : tripA bF = tripA bF := rfl
      clear hbb hlies
      obtain ⟨v0, hv0, hown0, hval0⟩ : ∃ v0 : Value, v0.ownBlock = c.raw.ownBlock ∧ w1.ownsRow (g + 6) 5 1 v0 0 [] ∧ ((c.raw = .slice none 0 0 ∧ v0 = .slice none 0 0) ∨ ∃ b cap0, c.raw = .slice (some ⟨b, 0, none⟩) n0 cap0 ∧ v0 = .slice (some ⟨b, 0, none⟩) 0 cap0 ∧ n0 ≤ cap0) := by
        rcases hraw1.2 with ⟨h1, h2⟩ | ⟨b, cap0, cur, h1, h2, h3, h4, h5⟩
        · exact ⟨.slice none 0 0, by rw [h1], World.ownsRow_nil _ _ _ _, .inl ⟨h1, rfl⟩⟩
        · refine ⟨.slice (some ⟨b, 0, none⟩) 0 cap0, by rw [h1]; rfl, ?_, .inr ⟨b, cap0, h1, rfl, h4⟩⟩
          rw [h1] at hraw1
          exact ownsRow_none hraw1
      have hx0 : 0 < x.length := by
        rcases hrsc with ⟨h, -⟩ | ⟨-, h, -⟩ | ⟨h, -⟩ | ⟨N, h, hN, -⟩
        · rw [h] at hEF; cases hEF
        · omega
        · rw [h] at hEF; first | exact absurd hEF (tripA_no hne) | exact absurd hEF (trip_no hfg (by omega))
        · rw [h] at hEF; first | exact absurd hEF (tripA_no hne) | exact absurd hEF (trip_no hfg (by omega))
      obtain ⟨v1, w2, hrun, hown2, hgrew⟩ := append_bytes (g + 6) w1 36 v0 0 [] hown0 (g + 3) o n cap x hxn hseg (by omega) (by have := ho.size; omega)
      rw [Nat.zero_add, List.nil_append] at hown2
      obtain ⟨b1, cp1, rfl, -, -⟩ := hown2.form (by omega)
      have ho2 : Only (ownL g c.raw) w w2 := hgrew.only (ho.mono (fun k _ h => .inl h)) (fun k hk => .inl (.inr (.inr (by rw [← hv0]; exact hk))))
      have hg12 : Only (fun k => v0.ownBlock = some k) w1 w2 := hgrew.only (Only.refl _ _) (fun k hk => .inl hk)
      have hnot : ∀ k, k < g + 6 → ¬ (v0.ownBlock = some k) := fun k hk h => by have := (hown0.lt k h).1; omega
      have hc2 : SAt (g + 4) 76 (csvC g c) w2 := hg12.sat hc1 (hnot _ (by omega))
      have hlc2 : LC g (tripA bE) (tripA bF) s rest x (o + x.length) E w2 := hrsc.lc.only hg12 (fun k hk => hnot k (by unfold own at hk; omega))
      have hxr : x.length ≤ rest.length + 4096 := by omega
      have c10 := hc1.cell (i := 10) rfl
      have d10 := hc2.cell (i := 10) rfl
      have f10 := hc2.frozen 10
      have hG : Hid (GatherP g c bE bF s rest w x (.slice (some ⟨b1, 0, none⟩) n cp1) E (w2.setCell ⟨g + 4, 10, none⟩ (.slice (some ⟨b1, 0, none⟩) n cp1))) := by
        have h4 : Only (fun k => k = g + 4) w2 (w2.setCell ⟨g + 4, 10, none⟩ (.slice (some ⟨b1, 0, none⟩) n cp1)) := (Only.refl (fun k => k = g + 4) _).setCell (.inl rfl) _
        refine ⟨hx0, hxr, ?_, hc2.set' 10 _ (by simp [csvC]), ho2.trans h4 (fun k _ hk => .inr (.inl hk)), ?_, ?_⟩
        · have := ownsRow_only hown2 h4 (fun k hk h => by have := (hown2.lt k hk).1; omega)
          simpa [hxn] using this
        · rcases hgrew.loc with h | h
          · exact .inl (h.trans hv0)
          · exact .inr ⟨_, h, ho.size⟩
        · have : LC g (tripA bE) (tripA bF) s rest x (o + x.length) E _ := hlc2.only h4 (fun k hk h => by unfold own at hk; omega)
          rcases this with ⟨h, -⟩ | h | h | h
          · rw [h] at hEF; cases hEF
          · exact .inr (.inl h)
          · exact .inr (.inr (.inl h))
          · exact .inr (.inr (.inr h))
      clear hown2 hgrew hown0 hraw1 hlc2 hc2 hc1 hg12 ho2 hseg hrsc
      subst hEF
      go_upto_region 3 with fail
      go_cut [] from 19 to 28 (fun wr => GatherP g c bE bF s rest w x (.slice (some ⟨b1, 0, none⟩) n cp1) (tripA bF) wr)
      case first =>
        rcases hval0 with ⟨h1, rfl⟩ | ⟨b, cap0, h1, rfl, hb0⟩
        · rw [h1] at c10 d10
          go_wp2_with (at_builtin; refine wpl_append_run rfl _ _ 36 rfl _ _ rfl rfl (.slice (some ⟨b1, 0, none⟩) n cp1) w2 hrun ?_)
          go_meet
          exact hG.out
        · rw [h1] at c10 d10
          go_wp2_with (at_builtin; refine wpl_append_run rfl _ _ 36 rfl _ _ rfl rfl (.slice (some ⟨b1, 0, none⟩) n cp1) w2 hrun ?_)
          go_meet
          exact hG.out
      case rest =>
      have hgp := hid_of hcut
      clear hcut hG hrun c10 d10 f10 hnot hval0 hv0
      go_wp2_with fail
      go_loopg [4, 5] (rest.length + 2) (fun f v4 v5 wr => ∃ acc raw, Hid (GatherP g c bE bF s rest w acc raw v5 wr) ∧ Hid (v5 = tripA bF → rest.length + 2 ≤ f + acc.length) ∧ 1 ≤ f)
      case atStart => exact ⟨x, _, hgp, fun _ => by omega, by omega⟩
      case round =>
        clear hgp
        obtain ⟨acc, raw, hgp, hfl, hf1⟩ := hrel
        obtain ⟨f, rfl⟩ : ∃ f, gk = f + 1 := ⟨gk - 1, by omega⟩
        obtain ⟨ha0, har, hown, hcs, hoL, hloc, hlc⟩ := hgp.out
        have hSr : Sent g bE bF wr := HS.out.only hoL (fun k hk h => by
          rcases h with h | h | h
          · unfold own at h; omega
          · omega
          · have := (HRAW.out.lt k h).1; omega)
        have hFr : wr.cell? ⟨7, 0, none⟩ = some (.iface 99 (.pointer (some bF))) := hSr.f
        obtain ⟨bk, cp, rfl, hbk, hbk2⟩ := hown.form ha0
        have c10 := hcs.cell (i := 10) rfl
        have c7 := hcs.cell (i := 7) rfl
        have hsegR : Seg wr bk 0 acc := by
          intro i hi
          have := hown.cellAt i (by omega)
          rw [Nat.zero_add, this, bcells_get _ _ hi]
        have hncp : acc.length ≤ cp := by
          rcases hown.2 with ⟨h, -⟩ | ⟨g', cap', cur, h1, -, -, h4, -⟩
          · cases h
          · simp only [Value.slice.injEq] at h1
            omega
        have hlie : Hid (Lies g c w bk 0 acc.length acc 0 (.slice (some ⟨bk, 0, none⟩) acc.length cp) wr) := ⟨by omega, rfl, hsegR, hcs, hoL, hloc, .inr ⟨rfl, rfl, hown⟩⟩
        rcases hlc with h | ⟨rfl, -, rest', hr', hn10, hfits, r', hsr'⟩ | h | h
        · have hlc' : Hid (LC g (tripA bE) (tripA bF) s rest acc 0 _ wr) := hid_of (.inl h)
          obtain ⟨rfl, -⟩ := h
          have hq := eql_nil wr bF
          clear hown hcs hoL hloc hsegR
          go_wp2_with fail
          go_meet
          exact ⟨bk, 0, acc.length, cp, acc, 0, _, rfl, hncp, hlie.out, hlc'.out, by simp [tripE, tripA]⟩
        · have har2 : acc.length ≤ rest.length := by rw [hr', List.length_append]; omega
          have hszr : g + 6 ≤ wr.heap.size := Nat.le_trans hsz hoL.size
          have cRS' := rs_calls F g (tripA bE) (tripA bF) (adv s acc) rest' r' wr (by rw [hoL.tape]; exact hF) hSr.e hSr.f hSr.g10 ⟨_, _, rfl⟩ hszr hsr'
          have hq := eql_same wr bF
          have hfl2 : rest.length + 2 ≤ f + 1 + acc.length := hfl.out rfl
          have hblk : ∀ k, k < g + 6 → ¬ ((Value.slice (some ⟨bk, 0, none⟩) acc.length cp).ownBlock = some k) := fun k hk h => by have := (hown.lt k h).1; omega
          have HOW := hid_of hown
          have HCS := hid_of hcs
          have HOL := hid_of hoL
          have HLO := hid_of hloc
          have HR' := hid_of hr'
          have HN10 := hid_of hn10
          have HFI := hid_of hfits
          clear hown hcs hoL hloc hsegR hlie hfl hr' hn10 hfits hsr'
          simp only [tripE, tripA]
          go_wp2_with (first | (go_at_call 71; go_fit cRS'; rintro e w5 ⟨o5, n5, cap5, x5, E5, rfl, hnc5, hxn5, hn45, hseg5, ho5, hrsc5⟩; have hown5 : w5.ownsRow (g + 6) 5 1 (.slice (some ⟨bk, 0, none⟩) acc.length cp) acc.length (bcells acc) := ownsRow_only HOW.out ho5 (fun k hk h => hblk k (by unfold own at h; omega) hk); have hc5 : SAt (g + 4) 76 _ w5 := ho5.sat HCS.out (by unfold own; omega); obtain ⟨v6, w6, hrun6, hown6, hgrew6⟩ := append_bytes (g + 6) w5 36 _ acc.length (bcells acc) hown5 (g + 3) o5 n5 cap5 x5 hxn5 hseg5 (by omega) (by have := ho5.size; omega); obtain ⟨b6, cp6, rfl, -, -⟩ := hown6.form (by omega); have hg56 : Only (fun k => (Value.slice (some ⟨bk, 0, none⟩) acc.length cp).ownBlock = some k) w5 w6 := hgrew6.only (Only.refl _ _) (fun k hk => .inl hk); have hc6 : SAt (g + 4) 76 _ w6 := hg56.sat hc5 (hblk _ (by omega)); have e10 := hc5.cell (i := 10) rfl; have d10 := hc6.cell (i := 10) rfl; have f10 := hc6.frozen 10) | (at_builtin; refine wpl_append_run rfl _ _ 36 rfl _ _ rfl rfl (.slice (some ⟨b6, 0, none⟩) (acc.length + n5) cp6) w6 hrun6 ?_))
          go_roundg f
          case measure => omega
          case rel =>
            have h4 : Only (fun k => k = g + 4) w6 (w6.setCell ⟨g + 4, 10, none⟩ (.slice (some ⟨b6, 0, none⟩) (acc.length + n5) cp6)) := (Only.refl (fun k => k = g + 4) _).setCell (.inl rfl) _
            have hlc5 := (hrsc5.lc.only hg56 (fun k hk => hblk k (by unfold own at hk; omega))).more HR'.out HN10.out HFI.out ha0
            refine ⟨acc ++ x5, .slice (some ⟨b6, 0, none⟩) (acc.length + n5) cp6, ⟨by rw [List.length_append]; omega, by rw [List.length_append]; omega, ?_, hc6.set' 10 _ (by simp [csvC]), ?_, ?_, hlc5.only h4 (fun k hk h => by unfold own at hk; omega)⟩, ?_, by omega⟩
            · have := ownsRow_only hown6 h4 (fun k hk h => by have := (hown6.lt k hk).1; omega)
              rw [List.length_append, hxn5, bcells_append]
              exact this
            · refine ((HOL.out.trans ho5 (fun k _ hk => .inl hk)).trans hg56 (fun k hk h => ?_)).trans h4 (fun k _ hk => .inr (.inl hk))
              rcases HLO.out with h' | ⟨k', h', hk'⟩
              · exact .inr (.inr (by rw [← h']; exact h))
              · rw [h'] at h
                simp at h
                omega
            · rcases hgrew6.loc with h' | h'
              · rw [h']; exact HLO.out
              · exact .inr ⟨_, h', Nat.le_trans HOL.out.size ho5.size⟩
            · intro hE5
              rcases hrsc5 with ⟨h, -⟩ | ⟨-, h, -⟩ | ⟨h, -⟩ | ⟨N, h, hN, -⟩
              · rw [h] at hE5; cases hE5
              · rw [List.length_append]; omega
              · rw [h] at hE5; first | exact absurd hE5 (tripA_no hne) | exact absurd hE5 (trip_no hfg (by omega))
              · rw [h] at hE5; first | exact absurd hE5 (tripA_no hne) | exact absurd hE5 (trip_no hfg (by omega))
        · have hlc' : Hid (LC g (tripA bE) (tripA bF) s rest acc 0 _ wr) := hid_of (.inr (.inr (.inl h)))
          obtain ⟨rfl, -⟩ := h
          have hq := eql_other wr bE bF hne hSr.ce hSr.cf
          clear hown hcs hoL hloc hsegR
          simp only [tripE, tripA]
          go_wp2_with fail
          go_meet
          exact ⟨bk, 0, acc.length, cp, acc, 0, _, rfl, hncp, hlie.out, hlc'.out, by simp [tripE, tripA, hne]⟩
        · have hlc' : Hid (LC g (tripA bE) (tripA bF) s rest acc 0 _ wr) := hid_of (.inr (.inr (.inr h)))
          obtain ⟨N, rfl, hN, hNc, -⟩ := h
          have hNF : (⟨N, 0, none⟩ : Addr) ≠ bF := trip_ne hfg (by omega)
          have hq := eql_other wr ⟨N, 0, none⟩ bF hNF hNc hSr.cf
          clear hown hcs hoL hloc hsegR
          simp only [tripE, tripA]
          go_wp2_with fail
          go_meet
          exact ⟨bk, 0, acc.length, cp, acc, 0, _, rfl, hncp, hlie.out, hlc'.out, by simp [tripE, tripA, hNF]⟩
  case rest =>
  obtain ⟨lb, lo, n', cap', x', q, raw, rfl, hnc', hl, hlc, hv5⟩ := hcut
  have HLIES := hid_of hl
  obtain ⟨hn'le, hxn', hseg', hcs, hoL, hloc, hwh⟩ := hl
  have hSc : Sent g bE bF wc := HS.out.only hoL (fun k hk h => by
    rcases h with h | h | h
    · unfold own at h; omega
    · omega
    · have := (HRAW.out.lt k h).1; omega)
  have hEc : wc.cell? ⟨0, 0, none⟩ = some (.iface 99 (.pointer (some bE))) := hSc.e
  have hlb : lb ≠ g + 4 ∧ lb ≠ g + 2 ∧ lb ≠ g ∧ lb ≠ g + 1 := by
    rcases hwh with ⟨h, -⟩ | ⟨h, -, h2⟩
    · omega
    · have := (h2.lt lb h).1; omega
  have d8 := hcs.cell (i := 8) rfl
  have d9 := hcs.cell (i := 9) rfl
  have f8 := hcs.frozen 8
  have f9 := hcs.frozen 9
  simp only [] at d8 d9
  have hW2 : ∀ a b, Only (fun k => k = g + 4) wc ((wc.setCell ⟨g + 4, 8, none⟩ a).setCell ⟨g + 4, 9, none⟩ b) := fun a b => ((Only.refl (fun k => k = g + 4) _).setCell (.inl rfl) _).setCell (.inl rfl) _
  have hb1 : ∀ (h : 1 ≤ n'), wc.cell? ⟨lb, lo + (n' - 1), none⟩ = some (.int .u8 ((x'[n' - 1]'(by omega)).toNat : Int)) := fun h => hseg' (n' - 1) (by omega)
  have hb2 : ∀ (h : 2 ≤ n'), wc.cell? ⟨lb, lo + (n' - 2), none⟩ = some (.int .u8 ((x'[n' - 2]'(by omega)).toNat : Int)) := fun h => hseg' (n' - 2) (by omega)
  have HCS := hid_of hcs
  have HOL := hid_of hoL
  have HSEG := hid_of hseg'
  have HLOC := hid_of hloc
  have HWH := hid_of hwh
  have HB1 := hid_of hb1
  have HB2 := hid_of hb2
  have HW2 := hid_of hW2
  clear hcs hoL hseg' hloc hwh hb1 hb2 hW2 hS1 hF1 hseg ho hrsc hc1 hraw1 hlies hbb cRS
  have k1 : ∀ (h : 1 ≤ n') a b, ((wc.setCell ⟨g + 4, 8, none⟩ a).setCell ⟨g + 4, 9, none⟩ b).cell? ⟨lb, lo + (n' - 1), none⟩ = some (.int .u8 ((x'[n' - 1]'(by omega)).toNat : Int)) := fun h a b => (HW2.out a b).cell (HB1.out h) hlb.1
  have k2 : ∀ (h : 2 ≤ n') a b, ((wc.setCell ⟨g + 4, 8, none⟩ a).setCell ⟨g + 4, 9, none⟩ b).cell? ⟨lb, lo + (n' - 2), none⟩ = some (.int .u8 ((x'[n' - 2]'(by omega)).toNat : Int)) := fun h a b => (HW2.out a b).cell (HB2.out h) hlb.1
  have k3 : ∀ (h : 3 ≤ n') a b, ((wc.setCell ⟨g + 4, 8, none⟩ a).setCell ⟨g + 4, 9, none⟩ b).cell? ⟨lb, lo + (n' - 3), none⟩ = some (.int .u8 ((x'[n' - 3]'(by omega)).toNat : Int)) := fun h a b => (HW2.out a b).cell (HSEG.out (n' - 3) (by omega)) hlb.1
  have b13 : ∀ c : UInt8, c ≠ 13 → ((c.toNat : Int) == 13) = false := fun c h => by
    rw [beq_eq_false_iff_ne]
    intro h'
    exact h (UInt8.toNat_inj.1 (by have : (13 : UInt8).toNat = 13 := rfl; omega))
  have b10 : ∀ c : UInt8, c ≠ 10 → ((c.toNat : Int) == 10) = false := fun c h => by
    rw [beq_eq_false_iff_ne]
    intro h'
    exact h (UInt8.toNat_inj.1 (by have : (10 : UInt8).toNat = 10 := rfl; omega))
  have hid1 := hid_of k1
  have hid2 := hid_of k2
  have hid3 := hid_of k3
  have hid13 := hid_of b13
  have hid10 := hid_of b10
  clear k1 k2 k3 b13 b10
  rcases hlc with ⟨rfl, hx, h10, hfit, r', hq', hsr⟩ | ⟨h, -⟩ | ⟨rfl, hx, h10, hfit, r', hsr⟩ | ⟨N, rfl, hN, hNc, hNx, hNr, htr⟩
  · have hrne : rest ≠ [] := List.ne_nil_of_mem h10
    have hn1 : 1 ≤ n' := by
      rw [← hxn', hx, List.length_take]
      have := lineLen_le rest
      have : 0 < lineLen rest := lineLen_pos (List.length_pos_iff.2 hrne)
      omega
    have hq := eql_nil wc bE
    have hnz : (0 : Int) < (n' : Int) := by omega
    have hlast : x'[n' - 1]'(by omega) = 10 := by
      obtain ⟨p, hp, -⟩ := line_get h10
      have hx2 : x' = p ++ [10] := hx.trans hp
      have hpl : p.length = n' - 1 := by have := congrArg List.length hx2; simp at this; omega
      simp only [hx2]
      rw [List.getElem_append_right (by omega)]
      simp [hpl]
    have k1 := hid1.out hn1
    rw [hlast] at k1
    have HK1 : ∀ a b, ((wc.setCell ⟨g + 4, 8, none⟩ a).setCell ⟨g + 4, 9, none⟩ b).cell? ⟨lb, lo + (n' - 1), none⟩ = some (.int .u8 10) := k1
    have HX := hid_of hx
    have HLA := hid_of hlast
    have HSR := hid_of hsr
    clear hx hlast hsr k1 h10
    by_cases h2 : 2 ≤ n'
    · have h2' : (2 : Int) ≤ (n' : Int) := by omega
      have k2 := hid2.out h2
      by_cases h13 : x'[n' - 2]'(by omega) = 13
      · rw [h13] at k2
        have HK2 : ∀ a b, ((wc.setCell ⟨g + 4, 8, none⟩ a).setCell ⟨g + 4, 9, none⟩ b).cell? ⟨lb, lo + (n' - 2), none⟩ = some (.int .u8 13) := k2
        have f2 : ∀ a b, ((wc.setCell ⟨g + 4, 8, none⟩ a).setCell ⟨g + 4, 9, none⟩ b).frozen? ⟨lb, lo + (n' - 2), none⟩ = false := by
          intro a b
          have hc : IsC lb ((wc.setCell ⟨g + 4, 8, none⟩ a).setCell ⟨g + 4, 9, none⟩ b) := (HW2.out a b).cells _ (by
            rcases HWH.out with ⟨h, -⟩ | ⟨h, -, h7⟩
            · obtain ⟨-, bf, un, e, -, -, ⟨B, _, _, _, _, _, h4, _⟩, -⟩ := HSR.out
              rw [h]; exact h4.isC
            · rcases h7.2 with ⟨h', -⟩ | ⟨g', cap', cur, h', -, h3, -⟩
              · rw [h'] at h; cases h
              · rw [h'] at h
                simp only [Value.ownBlock, Option.some.injEq] at h
                subst h
                exact ⟨_, _, h3⟩)
          obtain ⟨cc, tt, hcc⟩ := hc
          simp [World.frozen?, hcc]
        have HNM : Hid (norm x' = x'.take (n' - 2) ++ [10]) := norm_crlf x' (n' - 2) (by omega) (by have := HLA.out; simpa [show n' - 2 + 1 = n' - 1 by omega] using this) h13
        clear k2 h13
        go_wp2_with fail
        go_ret2
        exact rd_fin_crlf HLIES.out hnc' h2 (by omega) _ hrne hfit HX.out r' hq' HSR.out HNM.out
      · have k13 := hid13.out _ h13
        have FIN : Hid (RdC g bE s rest (x'.take n') .nilIface wc) := by
          refine .inl ⟨hrne, rfl, hfit, ?_, r', by rw [← HX.out]; exact HSR.out⟩
          rw [← HX.out, List.take_of_length_le (by omega)]
          refine (norm_lf x' (n' - 1) (by omega) HLA.out ?_).symm
          intro m hm hm'
          have : m = n' - 2 := by omega
          subst this
          exact h13
        clear h13
        go_wp2_with fail
        go_ret2
        exact rd_fin HLIES.out hnc' n' (Nat.le_refl _) (by omega) _ _ FIN.out
    · have h2' : decide ((2 : Int) ≤ (n' : Int)) = false := by simp; omega
      have h2'' : (n' : Int) < 2 := by omega
      have FIN : Hid (RdC g bE s rest (x'.take n') .nilIface wc) := by
        refine .inl ⟨hrne, rfl, hfit, ?_, r', by rw [← HX.out]; exact HSR.out⟩
        rw [← HX.out, List.take_of_length_le (by omega)]
        exact (norm_lf x' (n' - 1) (by omega) HLA.out (by intro m hm; omega)).symm
      go_wp2_with fail
      go_ret2
      exact rd_fin HLIES.out hnc' n' (Nat.le_refl _) (by omega) _ _ FIN.out
  · exact absurd h hv5
  · subst hx
    have hmem : ∀ (j : Nat) (hj : j < x'.length), x'[j] ≠ 10 := fun j hj h => h10 (by rw [← h]; exact List.getElem_mem hj)
    have HM := hid_of hmem
    have HSR := hid_of hsr
    have HFI := hid_of hfit
    have H10 := hid_of h10
    clear hmem hsr hfit h10
    by_cases hn0 : n' = 0
    · have hxe : x' = [] := List.eq_nil_of_length_eq_zero (by omega)
      have FIN : Hid (RdC g bE s x' (x'.take 0) (tripA bE) wc) := by
        refine .inr (.inl ⟨hxe, rfl, by simp, r', ?_⟩)
        have := HSR.out
        rw [hxe] at this
        exact this
      subst hn0
      clear hxe
      simp only [tripE, tripA]
      go_wp2_with fail
      go_ret2
      exact rd_fin HLIES.out hnc' 0 (Nat.le_refl _) (by omega) _ _ FIN.out
    · have hq := eql_same wc bE
      have hnz : (0 : Int) < (n' : Int) := by omega
      have hrne : x' ≠ [] := by intro h; rw [h] at hxn'; simp at hxn'; omega
      have hll : lineLen x' = x'.length := lineLen_none H10.out
      have hbase : ∀ ln, ln = norm x' → RdC g bE s x' ln .nilIface wc := by
        intro ln hln
        refine .inl ⟨hrne, rfl, ?_, ?_, r', ?_⟩
        · rw [hll]; exact fits_none s H10.out (by omega) HFI.out
        · rw [hll, List.take_of_length_le (Nat.le_refl _)]; exact hln
        · rw [hll, List.take_of_length_le (Nat.le_refl _), List.drop_eq_nil_of_le (Nat.le_refl _)]; exact HSR.out
      have HBA := hid_of hbase
      clear hbase hll hrne
      have hb1 := HB1.out (by omega)
      by_cases h13 : x'[n' - 1]'(by omega) = 13
      · rw [h13] at hb1
        have FIN : Hid (RdC g bE s x' (x'.take (n' - 1)) .nilIface wc) := HBA.out _ (norm_cr x' (n' - 1) (by omega) h13).symm
        clear h13
        by_cases h3 : 3 ≤ n'
        · have k2 := hid3.out h3
          have k1 := hid2.out (by omega)
          have c10 := hid10.out _ (HM.out (n' - 2) (by omega))
          have h2' : (2 : Int) ≤ (n' : Int) - 1 := by omega
          have e1 : n' - 1 - 1 = n' - 2 := by omega
          have e2 : n' - 1 - 2 = n' - 3 := by omega
          have e3 : ((n' : Int) - 1 - 2).toNat = n' - 3 := by omega
          have e4 : ((n' : Int) - 1 - 1).toNat = n' - 2 := by omega
          have e5 : (0 : Int) ≤ (n' : Int) - 1 - 2 := by omega
          by_cases h13' : x'[n' - 3]'(by omega) = 13
          · rw [h13'] at k2
            clear h13'
            simp only [tripE, tripA]
            go_wp2_with fail
            go_ret2
            exact rd_fin HLIES.out hnc' (n' - 1) (by omega) (by omega) _ _ FIN.out
          · have c13 := hid13.out _ h13'
            clear h13'
            simp only [tripE, tripA]
            go_wp2_with fail
            go_ret2
            exact rd_fin HLIES.out hnc' (n' - 1) (by omega) (by omega) _ _ FIN.out
        · have h2' : decide ((2 : Int) ≤ (n' : Int) - 1) = false := by simp; omega
          have h2'' : (n' : Int) - 1 < 2 := by omega
          simp only [tripE, tripA]
          go_wp2_with fail
          go_ret2
          exact rd_fin HLIES.out hnc' (n' - 1) (by omega) (by omega) _ _ FIN.out
      · have c13 := hid13.out _ h13
        have FIN : Hid (RdC g bE s x' (x'.take n') .nilIface wc) := by
          refine HBA.out _ ?_
          rw [List.take_of_length_le (by omega)]
          exact (norm_plain x' (n' - 1) (by omega) h13 (HM.out _ (by omega))).symm
        clear h13
        by_cases h2 : 2 ≤ n'
        · have k2 := hid2.out h2
          have k1 := hid1.out (by omega)
          have c10 := hid10.out _ (HM.out (n' - 1) (by omega))
          have h2' : (2 : Int) ≤ (n' : Int) := by omega
          by_cases h13' : x'[n' - 2]'(by omega) = 13
          · rw [h13'] at k2
            clear h13'
            simp only [tripE, tripA]
            go_wp2_with fail
            go_ret2
            exact rd_fin HLIES.out hnc' n' (by omega) (by omega) _ _ FIN.out
          · have c13' := hid13.out _ h13'
            clear h13'
            simp only [tripE, tripA]
            go_wp2_with fail
            go_ret2
            exact rd_fin HLIES.out hnc' n' (by omega) (by omega) _ _ FIN.out
        · have h2' : decide ((2 : Int) ≤ (n' : Int)) = false := by simp; omega
          have h2'' : (n' : Int) < 2 := by omega
          simp only [tripE, tripA]
          go_wp2_with fail
          go_ret2
          exact rd_fin HLIES.out hnc' n' (by omega) (by omega) _ _ FIN.out
  · have FIN : Hid (RdC g bE s rest (x'.take n') (tripE N) wc) := .inr (.inr ⟨N, rfl, hN, hNc, fun b hb => hNr b (List.mem_of_mem_take hb), htr⟩)
    have hmem : ∀ (j : Nat) (hj : j < x'.length), x'[j] ≠ 10 := fun j hj h => hNx (by rw [← h]; exact List.getElem_mem hj)
    have HM := hid_of hmem
    have hNE : (⟨N, 0, none⟩ : Addr) ≠ bE := trip_ne heg (by omega)
    have hq := eql_other wc ⟨N, 0, none⟩ bE hNE hNc hSc.ce
    clear hmem hNx hNc hNr
    by_cases hn0 : n' = 0
    · have h2'' : (n' : Int) < 2 := by omega
      subst hn0
      simp only [tripE, tripA]
      go_wp2_with fail
      go_ret2
      exact rd_fin HLIES.out hnc' 0 (by omega) (by omega) _ _ FIN.out
    · have hnz : (0 : Int) < (n' : Int) := by omega
      by_cases h2 : 2 ≤ n'
      · have k2 := hid2.out h2
        have k1 := hid1.out (by omega)
        have c10 := hid10.out _ (HM.out (n' - 1) (by omega))
        have h2' : (2 : Int) ≤ (n' : Int) := by omega
        by_cases h13' : x'[n' - 2]'(by omega) = 13
        · rw [h13'] at k2
          clear h13'
          simp only [tripE, tripA]
          go_wp2_with fail
          go_ret2
          exact rd_fin HLIES.out hnc' n' (by omega) (by omega) _ _ FIN.out
        · have c13' := hid13.out _ h13'
          clear h13'
          simp only [tripE, tripA]
          go_wp2_with fail
          go_ret2
          exact rd_fin HLIES.out hnc' n' (by omega) (by omega) _ _ FIN.out
      · have h2' : decide ((2 : Int) ≤ (n' : Int)) = false := by simp; omega
        have h2'' : (n' : Int) < 2 := by omega
        simp only [tripE, tripA]
        go_wp2_with fail
        go_ret2
        exact rd_fin HLIES.out hnc' n' (by omega) (by omega) _ _ FIN.out
end Go.Proofs.Qxb6614395aFmt
