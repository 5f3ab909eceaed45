import Derived.Test.Qxb6609089aDoorW7
set_option linter.unusedSimpArgs false
set_option linter.unusedVariables false
namespace Go.Proofs.Qxb6609089aDoor
open Go Go.RowKit

set_option maxHeartbeats 400000 in
theorem firstLine_nil (w : World) : Calls Tryd.prog 18 #[.slice none 0 0] w fun e w' => e = .returned (.tuple #[.slice none 0 0, .int .i64 0, .bool false]) ∧ w' = w := by
  have cI : Calls Tryd.prog 22 #[.slice none 0 0, .int .u8 10] w fun e w' => e = .returned (.int .i64 (-1)) ∧ w' = w := Any.bytes_IndexByte_nil Tryd.lays187 10 w
  go_enter Tryd.func18, Tryd.ntmps18
  go_wp2_with (go_at_call 22; go_fit cI; rintro e w' ⟨rfl, rfl⟩)
  go_ret3
  exact ⟨rfl, rfl⟩

set_option maxHeartbeats 800000 in
theorem ready_none (rb : Nat) (w : World) (hR : RdAt w rb (.slice none 0 0) 0 0 .nilIface) :
    Calls Tryd.prog 14 #[.pointer (some ⟨rb, 0, none⟩)] w fun z w' => z = .returned (.bool false) ∧ Below w.heap.size w w' := by
  have c1 := hR.c1
  have c2 := hR.c2
  have c3 := hR.c3
  have c4 := hR.c4
  go_enter Tryd.func14, Tryd.ntmps14
  go_wp2_with fail
  go_quiet (fail)
  go_wp2_with fail
  refine wp_loop_rounds 1 ?_
  rw [rounds_succ]
  go_wp2_with (go_at_call 18; go_fit (firstLine_nil _); rintro e w' ⟨rfl, hw⟩; have hw' := hw.symm; subst hw'; clear hw)
  go_ret
  exact ⟨rfl, below_drewN w _⟩

/-- The kept buffer: nil, or the bytes l at the head of a block. -/
def Kept (w : World) (v : Value) (l : List UInt8) : Prop := (v = .slice none 0 0 ∧ l = []) ∨ ∃ b, v = .slice (some ⟨b, 0, none⟩) l.length l.length ∧ BAt w b 0 l ∧ b < w.heap.size
theorem Kept.below {w w' : World} {v : Value} {l : List UInt8} (h : Kept w v l) (hb : Below w.heap.size w w') : Kept w' v l := by
  rcases h with h | ⟨b, h1, h2, h3⟩
  · exact .inl h
  · exact .inr ⟨b, h1, h2.below hb h3, Nat.lt_of_lt_of_le h3 hb.size⟩
/-- What Ready answers over the bytes from s to e. -/
def rv (l : List UInt8) (eof : Bool) (s e : Nat) : Bool := eof || Rd.rdy skp [] ((l.take e).drop s)
/-- The end of file's variable. -/
def Eof (w : World) (t : TypeId) (x : Value) : Prop := w.cell? ⟨0, 0, none⟩ = some (.iface t x)
theorem Eof.below {w w' : World} {t : TypeId} {x : Value} (h : Eof w t x) (hb : Below w.heap.size w w') : Eof w' t x := by
  have := World.block_lt_of_cell? w _ h
  unfold Eof; rw [hb.cell (p := ⟨0, 0, none⟩) this]; exact h

/-- A new Reader over the kept buffer, and what its Ready will answer. -/
def NewPost (w : World) (r : Bool) (e : Ending) (w' : World) : Prop := ∃ rb, e = .returned (.pointer (some ⟨rb, 0, none⟩)) ∧ Below w.heap.size w w' ∧
  Calls Tryd.prog 14 #[.pointer (some ⟨rb, 0, none⟩)] w' fun z w2 => z = .returned (.bool r) ∧ Below w'.heap.size w' w2

theorem new_calls (v : Value) (l : List UInt8) (eof : Bool) (s e : Nat) (t : TypeId) (x : Value) (w : World) (hK : Kept w v l) (hE : Eof w t x) (hT : Tabs w) (hse : s ≤ e) (hel : e ≤ l.length) (hl : l.length ≤ 1048576) :
    Calls Tryd.prog 13 #[v, .int .i64 s, .int .i64 e, .bool eof, .int .i64 0, .slice none 0 0] w (NewPost w (rv l eof s e)) := by
  rcases hK with ⟨rfl, rfl⟩ | ⟨b, rfl, hB, hbw⟩
  · obtain rfl : e = 0 := by simpa using hel
    obtain rfl : s = 0 := by omega
    cases eof with
    | false =>
      refine (newAt_false none 0 0 0 0 w).mono fun z w' ⟨rb, hz, h1, h2, hR, hb⟩ => ⟨rb, hz, hb, ?_⟩
      exact ready_none rb w' hR
    | true =>
      refine (newAt_true none 0 0 0 0 t x w hE).mono fun z w' ⟨rb, hz, h1, h2, hR, hb⟩ => ⟨rb, hz, hb, ?_⟩
      exact ready_ended rb none 0 0 0 0 t x w' (Nat.le_refl _) (Nat.le_refl _) (by omega) hR
  · cases eof with
    | false =>
      refine (newAt_false _ _ _ s e w).mono fun z w' ⟨rb, hz, h1, h2, hR, hb⟩ => ⟨rb, hz, hb, ?_⟩
      exact ready_open rb b l s e w' hse hel hl hR (hB.below hb hbw) (Nat.lt_of_lt_of_le hbw hb.size) (hT.below hb)
    | true =>
      refine (newAt_true _ _ _ s e t x w hE).mono fun z w' ⟨rb, hz, h1, h2, hR, hb⟩ => ⟨rb, hz, hb, ?_⟩
      exact ready_ended rb _ _ _ s e t x w' hse hel hl hR

theorem rv_law (l : List UInt8) (eof : Bool) (s k e : Nat) (hsk : s ≤ k) (hke : k ≤ e) (hel : e ≤ l.length) (h : k = s ∨ l.getD (k - 1) 0 = 10) : (rv l eof s e == (rv l false s k || rv l eof k e)) = true := by
  have hsplit : (l.take e).drop s = (l.take k).drop s ++ (l.take e).drop k := by
    apply List.ext_getElem?
    intro i
    simp only [List.getElem?_append, List.getElem?_drop, List.getElem?_take, List.length_drop, List.length_take]
    by_cases hi : i < min k l.length - s
    · rw [if_pos hi, if_pos (by omega), if_pos (by omega)]
    · rw [if_neg hi]
      by_cases h2 : s + i < e
      · rw [if_pos h2, if_pos (by omega)]
        congr 1; omega
      · rw [if_neg h2, if_neg (by omega)]
  cases eof with
  | true => simp [rv]
  | false =>
    simp only [rv, Bool.false_or, hsplit]
    rw [Rd.ready_law skp]
    · simp
    · by_cases hs : k = s
      · left; simp; omega
      · right
        have h10 : l.getD (k - 1) 0 = 10 := by
          rcases h with h | h
          · exact absurd h hs
          · exact h
        rw [List.getLast?_eq_getElem?, List.length_drop, List.length_take, List.getElem?_drop, List.getElem?_take, if_pos (by omega)]
        rw [show s + (min k l.length - s - 1) = k - 1 by omega]
        rw [List.getD_eq_getElem?_getD] at h10
        have hlt : k - 1 < l.length := by omega
        rw [List.getElem?_eq_getElem hlt] at h10 ⊢
        simpa using h10

end Go.Proofs.Qxb6609089aDoor
