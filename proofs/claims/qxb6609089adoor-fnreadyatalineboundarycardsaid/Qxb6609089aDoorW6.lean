import Derived.Test.Qxb6609089aDoorW5
set_option linter.unusedSimpArgs false
set_option linter.unusedVariables false
namespace Go.Proofs.Qxb6609089aDoor
open Go Go.RowKit

theorem beq_u8 (c d : UInt8) (k : Int) (hk : (d.toNat : Int) = k) : ((c.toNat : Int) == k) = (c == d) := by
  rw [Bool.eq_iff_iff, beq_iff_eq, beq_iff_eq, ← hk]
  constructor
  · intro h; exact UInt8.toNat_inj.1 (by omega)
  · intro h; rw [h]

/-- Where the first rune stands that is no white space; -1 where there is none. -/
def firstInk (l : List UInt8) : Int := Lib.idxFunc Lib.isSpaceR false ⟨l.toArray⟩
/-- What 'skipped' answers of a line. -/
def skp (l : List UInt8) : Bool := if l.head? = some 84 then false else if firstInk l = -1 then true else l.getD (firstInk l).toNat 0 == 35

theorem ink_range (l : List UInt8) : firstInk l = -1 ∨ ∃ k : Nat, firstInk l = k ∧ k < l.length := by
  rcases Lib.idxFunc_range Lib.isSpaceR false ⟨l.toArray⟩ with h | ⟨h1, h2⟩
  · exact .inl h
  · refine .inr ⟨(firstInk l).toNat, ?_, ?_⟩
    · unfold firstInk; omega
    · have hs : ByteArray.size ⟨l.toArray⟩ = l.length := by simp [ByteArray.size]
      rw [hs] at h2
      unfold firstInk; omega

/-- The two tables that a decoder and unicode.IsSpace read. -/
structure Tabs (w : World) : Prop where
  u : Lib.Utf8Tabs 3 4 w
  s : Lib.WhiteTab 2 w

theorem trimFunc_calls (b o c : Nat) (l : List UInt8) (w : World) (h : BAt w b o l) (hc : l.length ≤ c) (hl : l.length ≤ 1048576) (hT : Tabs w) :
    Calls Tryd.prog 24 #[.slice (some ⟨b, o, none⟩) l.length c, .func (.func 25) #[] #[]] w fun e w' =>
      e = .returned (if firstInk l = -1 then .slice none 0 0 else .slice (some ⟨b, o + (firstInk l).toNat, none⟩) (l.length - (firstInk l).toNat) (c - (firstInk l).toNat)) ∧ Below w.heap.size w w' := by
  have hs : ByteArray.size ⟨l.toArray⟩ = l.length := by simp [ByteArray.size]
  have hp : PredGrows Tryd.prog 25 #[] Lib.isSpaceR w := (isSpace_pays Tryd.lays199 w hT.s).grows
  have := Any7.bytes_TrimLeftFunc Tryd.lays743 25 #[] (by exact fun _ _ => rfl) Lib.isSpaceR ⟨l.toArray⟩ b o c w (by rw [hs]; exact hc) (by rw [hs]; omega)
    (fun j hj => by
      rw [hs] at hj
      rw [h j hj]
      simp [ByteArray.get!, List.getD, hj]) hT.u hp
  unfold leftCut at this
  rw [hs] at this
  exact this

set_option maxHeartbeats 400000 in
theorem skipped_T (b o c : Nat) (t : List UInt8) (w : World) (h : BAt w b o (84 :: t)) (hl : (84 :: t).length ≤ 1048576) :
    Calls Tryd.prog 19 #[.slice (some ⟨b, o, none⟩) (84 :: t).length c] w fun e w' => e = .returned (.bool false) ∧ w' = w := by
  have h0 : w.cell? ⟨b, o, none⟩ = some (.int .u8 84) := h 0 (by simp)
  rw [List.length_cons] at hl ⊢
  clear h
  go_enter Tryd.func19, Tryd.ntmps19
  go_wp2_with fail
  go_ret
  exact ⟨rfl, rfl⟩

set_option maxHeartbeats 400000 in
theorem skipped_other (b o c : Nat) (l : List UInt8) (w : World) (h : BAt w b o l) (h84 : ¬ l.head? = some 84) (hc : l.length ≤ c) (hl : l.length ≤ 1048576) (hT : Tabs w) :
    Calls Tryd.prog 19 #[.slice (some ⟨b, o, none⟩) l.length c] w fun e w' => e = .returned (.bool (skp l)) ∧ Below w.heap.size w w' := by
  have cT := trimFunc_calls b o c l w h hc hl hT
  have e : Hid (skp l = if firstInk l = -1 then true else l.getD (firstInk l).toNat 0 == 35) := show _ = _ by unfold skp; rw [if_neg h84]
  have h0 : l.length = 0 ∨ (0 < l.length ∧ w.cell? ⟨b, o, none⟩ = some (.int .u8 ((l.getD 0 0).toNat : Int)) ∧ (((l.getD 0 0).toNat : Int) == 84) = false) := by
    cases l with
    | nil => exact .inl rfl
    | cons x t =>
      refine .inr ⟨by simp, h 0 (by simp), ?_⟩
      have : ¬ x = 84 := fun e => h84 (by simp [e])
      have : ¬ (x.toNat : Int) = 84 := fun e => this (UInt8.toNat_inj.1 (by have : (84 : UInt8).toNat = 84 := rfl; omega))
      simpa using this
  rcases ink_range l with hi | ⟨k, hk, hkl⟩
  · rw [hi] at cT e
    simp only [if_true] at cT e
    have e' : Hid (skp l = true) := e.out
    obtain ⟨n, hn⟩ : ∃ n, l.length = n := ⟨_, rfl⟩
    rw [hn] at cT h0 hc hl ⊢
    rcases h0 with h0 | ⟨h0, h1, h2⟩
    · subst h0
      clear h hi hn e h84
      go_enter Tryd.func19, Tryd.ntmps19
      go_wp2_with (go_at_call 24; go_fit cT; rintro e w' ⟨rfl, hb⟩)
      go_ret
      exact ⟨ret_bool e'.out.symm, hb⟩
    · obtain ⟨X0, hX0⟩ : ∃ X0, ((l.getD 0 0).toNat : Int) = X0 := ⟨_, rfl⟩
      rw [hX0] at h1 h2
      clear h hi hn hX0 e h84
      go_enter Tryd.func19, Tryd.ntmps19
      go_wp2_with (go_at_call 24; go_fit cT; rintro e w' ⟨rfl, hb⟩)
      go_ret
      exact ⟨ret_bool e'.out.symm, hb⟩
  · have hne : ¬ firstInk l = -1 := by omega
    rw [if_neg hne] at cT e
    rw [hk] at cT e
    simp only [Int.toNat_natCast] at cT e
    have hcell : ∀ w', Below w.heap.size w w' → w'.cell? ⟨b, o + k, none⟩ = some (.int .u8 ((l.getD k 0).toNat : Int)) := fun w' hb => by
      have hb0 := World.block_lt_of_cell? w _ (h k hkl)
      exact (h.below hb hb0) k hkl
    obtain ⟨n, hn⟩ : ∃ n, l.length = n := ⟨_, rfl⟩
    rw [hn] at cT h0 hc hl hkl ⊢
    rcases h0 with h0 | ⟨h0, h1, h2⟩
    · omega
    · obtain ⟨X0, hX0⟩ : ∃ X0, ((l.getD 0 0).toNat : Int) = X0 := ⟨_, rfl⟩
      obtain ⟨X, hX⟩ : ∃ X, l.getD k 0 = X := ⟨_, rfl⟩
      rw [hX0] at h1 h2
      rw [hX] at e
      simp only [hX] at hcell
      have hlen : (((n - k : Nat) : Int) == 0) = false := by simp; omega
      clear h hk hn hX0 h84 hne hX
      go_enter Tryd.func19, Tryd.ntmps19
      go_wp2_with (go_at_call 24; go_fit cT; rintro e w' ⟨rfl, hb⟩; have hcw := hcell _ hb)
      go_ret
      refine ⟨ret_bool ?_, hb⟩
      rw [e.out, beq_u8 X 35 35 rfl]

theorem skipped_calls (b o c : Nat) (l : List UInt8) (w : World) (h : BAt w b o l) (hc : l.length ≤ c) (hl : l.length ≤ 1048576) (hT : Tabs w) :
    Calls Tryd.prog 19 #[.slice (some ⟨b, o, none⟩) l.length c] w fun e w' => e = .returned (.bool (skp l)) ∧ Below w.heap.size w w' := by
  by_cases h84 : l.head? = some 84
  · obtain ⟨t, rfl⟩ : ∃ t, l = 84 :: t := by
      cases l with
      | nil => simp at h84
      | cons x t => exact ⟨t, by simp at h84; rw [h84]⟩
    refine (skipped_T b o c t w h hl).mono fun e w' ⟨he, hw⟩ => ?_
    subst hw
    exact ⟨by rw [he]; rfl, Below.refl _ _⟩
  · exact skipped_other b o c l w h h84 hc hl hT

end Go.Proofs.Qxb6609089aDoor
