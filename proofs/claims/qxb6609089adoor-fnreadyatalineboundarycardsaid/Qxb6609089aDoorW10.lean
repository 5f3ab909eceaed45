import Derived.Test.Qxb6609089aDoorW9
set_option linter.unusedSimpArgs false
set_option linter.unusedVariables false
namespace Go.Proofs.Qxb6609089aDoor
open Go Go.RowKit

set_option maxHeartbeats 1600000 in
theorem rd_same (p : Option Addr) (c : Nat) (l : List UInt8) (s e k : Nat) (eof : Bool) (t : TypeId) (x : Value) (w : World) (hl : l.length ≤ 1048576) (cC : Calls Tryd.prog 12 #[.slice p l.length c] w (ClonePost l w))
    (hsk : s ≤ k) (hke : k ≤ e) (hel : e ≤ l.length) (h : k = s) (hE : Eof w t x) (hT : Tabs w) :
    Calls Tryd.prog 5 #[.slice p l.length c, .int .i64 s, .int .i64 e, .int .i64 k, .bool eof] w (LawPost w) := by
  have hn : l.length ≤ 1048576 := hl
  have b1 : decide ((s : Int) < 0) = false := by simp
  have b2 : decide ((k : Int) < s) = false := by simp; omega
  have b3 : decide ((e : Int) < k) = false := by simp; omega
  have b4 : decide ((l.length : Int) < e) = false := by simp; omega
  have hlaw := rv_law l eof s k e hsk hke hel (.inl h)
  have HLAW : Hid ((rv l eof s e == (rv l false s k || rv l eof k e)) = true) := hlaw
  clear hlaw
  have b5 : ((k : Int) != (s : Int)) = false := by subst h; simp
  clear h
  go_enter Tryd.func5, Tryd.ntmps5
  go_wp2_with (go_at_call 11; go_fit (zzb_yes _ l.length c s e _ eof _ hn); rintro z w' ⟨rfl, hw⟩; have hw' := hw.symm; subst hw'; clear hw)
  refine cC.mono ?_
  rintro z w1 ⟨p1, n1, q1, rfl, bb1, hK⟩
  have h4 := four _ l t x w1 hK (hE.below bb1) (hT.below bb1) hl
  go_wp2_with fail
  refine (h4 _ (Below.refl _ _) eof s e (by omega) hel).mono ?_
  rintro z w2 ⟨rb, rfl, bb2, cR⟩
  go_wp2_with fail
  refine cR.mono ?_
  rintro z w3 ⟨rfl, bb3⟩
  have B3 := bb2.trans (bb3.mono bb2.size)
  go_wp2_with fail
  refine (h4 _ B3 false s k hsk (by omega)).mono ?_
  rintro z w4 ⟨rb, rfl, bb4, cR⟩
  go_wp2_with fail
  refine cR.mono ?_
  rintro z w5 ⟨rfl, bb5⟩
  have B5 := B3.trans ((bb4.trans (bb5.mono bb4.size)).mono B3.size)
  go_wp2_with fail
  refine (h4 _ B5 eof k e hke hel).mono ?_
  rintro z w6 ⟨rb, rfl, bb6, cR⟩
  go_wp2_with fail
  refine cR.mono ?_
  rintro z w7 ⟨rfl, bb7⟩
  have B7 := B5.trans ((bb6.trans (bb7.mono bb6.size)).mono B5.size)
  go_wp2_with fail
  refine (h4 _ B7 true s e (by omega) hel).mono ?_
  rintro z w8 ⟨rb, rfl, bb8, cR⟩
  go_wp2_with fail
  refine cR.mono ?_
  rintro z w9 ⟨rfl, bb9⟩
  have B9 := B7.trans ((bb8.trans (bb9.mono bb8.size)).mono B7.size)
  have BB := bb1.trans (B9.mono bb1.size)
  have e1 : rv l true s e = true := rfl
  rw [e1]
  have HL := HLAW.out
  generalize rv l eof s e = r1 at HL ⊢
  generalize rv l false s k = r2 at HL ⊢
  generalize rv l eof k e = r3 at HL ⊢
  clear B3 B5 B7 B9 bb1 bb2 bb3 bb4 bb5 bb6 bb7 bb8 bb9 cR h4 hK hE hT HLAW cC
  cases r1 <;> cases r2 <;> cases r3 <;> first | (cases HL; done) | skip
  all_goals go_wp2_with fail
  all_goals go_ret
  all_goals exact ⟨rfl, BB⟩

set_option maxHeartbeats 1600000 in
theorem rd_line (ab ao : Nat) (c : Nat) (l : List UInt8) (s e k : Nat) (eof : Bool) (t : TypeId) (x : Value) (w : World) (hl : l.length ≤ 1048576) (cC : Calls Tryd.prog 12 #[.slice (some ⟨ab, ao, none⟩) l.length c] w (ClonePost l w))
    (hsk : s ≤ k) (hke : k ≤ e) (hel : e ≤ l.length) (hks : ¬ k = s) (hB : BAt w ab ao l) (h : l.getD (k - 1) 0 = 10) (hE : Eof w t x) (hT : Tabs w) :
    Calls Tryd.prog 5 #[.slice (some ⟨ab, ao, none⟩) l.length c, .int .i64 s, .int .i64 e, .int .i64 k, .bool eof] w (LawPost w) := by
  have hn : l.length ≤ 1048576 := hl
  have b1 : decide ((s : Int) < 0) = false := by simp
  have b2 : decide ((k : Int) < s) = false := by simp; omega
  have b3 : decide ((e : Int) < k) = false := by simp; omega
  have b4 : decide ((l.length : Int) < e) = false := by simp; omega
  have hlaw := rv_law l eof s k e hsk hke hel (.inr h)
  have HLAW : Hid ((rv l eof s e == (rv l false s k || rv l eof k e)) = true) := hlaw
  clear hlaw
  have b5 : ((k : Int) != (s : Int)) = true := by rw [bne_iff_ne]; omega
  have hcell : w.cell? ⟨ab, ao + (k - 1), none⟩ = some (.int .u8 10) := by rw [hB (k - 1) (by omega), h]; rfl
  clear hB h
  obtain ⟨m, rfl⟩ : ∃ m, k = m + 1 := ⟨k - 1, by omega⟩
  simp only [Nat.add_sub_cancel] at hcell
  go_enter Tryd.func5, Tryd.ntmps5
  go_wp2_with (go_at_call 11; go_fit (zzb_yes _ l.length c s e _ eof _ hn); rintro z w' ⟨rfl, hw⟩; have hw' := hw.symm; subst hw'; clear hw)
  refine cC.mono ?_
  rintro z w1 ⟨p1, n1, q1, rfl, bb1, hK⟩
  have h4 := four _ l t x w1 hK (hE.below bb1) (hT.below bb1) hl
  go_wp2_with fail
  refine (h4 _ (Below.refl _ _) eof s e (by omega) hel).mono ?_
  rintro z w2 ⟨rb, rfl, bb2, cR⟩
  go_wp2_with fail
  refine cR.mono ?_
  rintro z w3 ⟨rfl, bb3⟩
  have B3 := bb2.trans (bb3.mono bb2.size)
  go_wp2_with fail
  refine (h4 _ B3 false s (m + 1) hsk (by omega)).mono ?_
  rintro z w4 ⟨rb, rfl, bb4, cR⟩
  go_wp2_with fail
  refine cR.mono ?_
  rintro z w5 ⟨rfl, bb5⟩
  have B5 := B3.trans ((bb4.trans (bb5.mono bb4.size)).mono B3.size)
  go_wp2_with fail
  refine (h4 _ B5 eof (m + 1) e hke hel).mono ?_
  rintro z w6 ⟨rb, rfl, bb6, cR⟩
  go_wp2_with fail
  refine cR.mono ?_
  rintro z w7 ⟨rfl, bb7⟩
  have B7 := B5.trans ((bb6.trans (bb7.mono bb6.size)).mono B5.size)
  go_wp2_with fail
  refine (h4 _ B7 true s e (by omega) hel).mono ?_
  rintro z w8 ⟨rb, rfl, bb8, cR⟩
  go_wp2_with fail
  refine cR.mono ?_
  rintro z w9 ⟨rfl, bb9⟩
  have B9 := B7.trans ((bb8.trans (bb9.mono bb8.size)).mono B7.size)
  have BB := bb1.trans (B9.mono bb1.size)
  have e1 : rv l true s e = true := rfl
  rw [e1]
  have HL := HLAW.out
  generalize rv l eof s e = r1 at HL ⊢
  generalize rv l false s (m + 1) = r2 at HL ⊢
  generalize rv l eof (m + 1) e = r3 at HL ⊢
  clear B3 B5 B7 B9 bb1 bb2 bb3 bb4 bb5 bb6 bb7 bb8 bb9 cR h4 hK hE hT HLAW cC
  cases r1 <;> cases r2 <;> cases r3 <;> first | (cases HL; done) | skip
  all_goals go_wp2_with fail
  all_goals go_ret
  all_goals exact ⟨rfl, BB⟩

end Go.Proofs.Qxb6609089aDoor
