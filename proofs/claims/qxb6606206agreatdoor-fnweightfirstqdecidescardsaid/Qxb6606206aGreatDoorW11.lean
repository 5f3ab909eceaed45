import Derived.Test.Qxb6606206aGreatDoorW10
import Derived.KernelRfl
set_option linter.unusedSimpArgs false
set_option linter.unusedVariables false
namespace Go.Proofs.Qxb6606206aGreatDoor
open Go Go.RowKit

/-- The table 'leftcheats', row k. -/
def chD (k : Nat) : Nat := (Pinned.cheatRows.getD k (0, [])).1
def chC (k : Nat) : List UInt8 := (Pinned.cheatRows.getD k (0, [])).2
/-- Does row k say what it should? -/
def chOk (k : Nat) : Bool :=
  (Dc.dv (Cf (chC k)) (chC k).length * 2 ^ k == 10 ^ ((chC k).length + chD k - 1)) && decide (10 ^ (chD k - 1) ≤ 2 ^ k) && decide (2 ^ k < 10 ^ chD k) && decide (1 ≤ chD k) &&
  (List.range (chC k).length).all (fun i => decide (48 ≤ Cf (chC k) i) && decide (Cf (chC k) i ≤ 57)) && decide (0 < (chC k).length) && (Cf (chC k) ((chC k).length - 1) != 48) && decide (chD k ≤ 20) && decide ((chC k).length ≤ 60)
theorem chAll : ((List.range 60).all fun j => chOk (j + 1)) = true := by kernel_rfl
theorem cheat_ok (k : Nat) (h1 : 1 ≤ k) (h2 : k ≤ 60) : Dc.Cheat k (chD k) (Cf (chC k)) (chC k).length := by
  have h := List.all_eq_true.1 chAll (k - 1) (by simp; omega)
  rw [Nat.sub_add_cancel h1] at h
  simp only [chOk, Bool.and_eq_true, beq_iff_eq, decide_eq_true_eq, bne_iff_ne, ne_eq] at h
  obtain ⟨⟨⟨⟨⟨⟨⟨⟨a1, a2⟩, a3⟩, a4⟩, a5⟩, a6⟩, a7⟩, a8⟩, a9⟩ := h
  refine ⟨a1, a2, a3, a4, ?_, a6, a7, a8, a9⟩
  intro i hi
  have := List.all_eq_true.1 a5 i (by simpa using hi)
  simp only [Bool.and_eq_true, decide_eq_true_eq] at this
  exact this

/-- The table in the world. -/
structure LCT (w : World) (blk o cap : Nat) : Prop where
  row : ∀ k, 1 ≤ k → k ≤ 60 → LCrow w blk o cap k (chD k) (chC k)
theorem LCT.below {w w' : World} {blk o cap B : Nat} (h : LCT w blk o cap) (hb : Below B w w') (h1 : blk < B) (h2 : 15 < B) : LCT w' blk o cap := ⟨fun k a b => (h.row k a b).below hb h1 h2⟩

def Dc.lsh (s : Dc) (k : Nat) : Dc := s.lshift k (chD k) (Cf (chC k)) (chC k).length
theorem Dc.lsh_ok (s : Dc) {k : Nat} (hs : s.Ok) (h1 : 0 < s.nd) (hk : k ≤ 60) (hk1 : 1 ≤ k) :
    (s.lsh k).Ok ∧ 0 < (s.lsh k).nd ∧ s.dp ≤ (s.lsh k).dp ∧ (s.lsh k).dp ≤ s.dp + 20 ∧ ((s.lsh k).dp = s.dp → s.d 0 < (s.lsh k).d 0) := Dc.lshift_ok s hs h1 hk hk1 (cheat_ok k hk1 hk)

set_option maxHeartbeats 3200000 in
/-- Shift(k), 0 < k ≤ 60. -/
theorem Shift_left (g B : Nat) (hB : B ≤ g) (k : Nat) (hk1 : 1 ≤ k) (hk : k ≤ 60) (s : Dc) (hs : s.Ok) (h1 : 0 < s.nd) (hdp : -1000000000 ≤ s.dp) (hdp' : s.dp ≤ 1000000000) (w : World) (h : DAt w g s)
    (blk o cap : Nat) (hblk : blk < B) (h15 : 15 < B) (hL : LCT w blk o cap) :
    Calls Tryz.prog 100 #[.pointer (some ⟨g, 0, none⟩), .int .i64 k] w (DPost B g w (s.lsh k)) := by
  have cL := lshift_calls g B hB k (chD k) (chC k) hk (cheat_ok k hk1 hk) s hs h1 hdp hdp' w h blk o cap hblk h15 (hL.row k hk1 hk)
  obtain ⟨R, hR⟩ : ∃ R, s.lsh k = R := ⟨_, rfl⟩
  rw [show s.lshift k (chD k) (Cf (chC k)) (chC k).length = R from hR] at cL
  rw [hR]
  have c0 := h.nd
  have hn0 : ((s.nd : Int) == 0) = false := by rw [beq_eq_false_iff_ne]; omega
  clear hR h hL
  go_enter Tryz.func100, Tryz.ntmps100
  go_wp2_with fail
  go_loopw [1] (fun v1 wr => v1 = .int .i64 k ∧ wr = w) (fun _ _ => 0)
  case atStart => exact ⟨rfl, rfl⟩
  case round =>
    obtain ⟨rfl, hwr⟩ := hrel
    have hwr' := hwr.symm
    subst hwr'
    clear hwr
    have hk60 : ¬ ((k : Int) > 60) := by omega
    go_wp2_with (go_at_call 105; go_fit cL; rintro e w' ⟨rfl, hD9, hb9⟩)
    go_end0
    exact ⟨rfl, hD9, hb9⟩

/-- Shift(-n): steps of 60. -/
def Dc.shR : Nat → Dc → Nat → Dc
  | 0, s, n => s.rshift n
  | f + 1, s, n => if 60 < n then Dc.shR f (s.rshift 60) (n - 60) else s.rshift n
theorem Dc.shR_stop {f n : Nat} {s : Dc} (h : ¬ 60 < n) : Dc.shR f s n = s.rshift n := by
  cases f with
  | zero => rfl
  | succ f => rw [Dc.shR, if_neg h]
theorem Dc.shR_ok : ∀ (f n : Nat) (s : Dc), n ≤ f → s.Ok → 0 < s.nd → 1 ≤ n → (Dc.shR f s n).Ok ∧ 0 < (Dc.shR f s n).nd ∧ (Dc.shR f s n).dp ≤ s.dp ∧ s.dp - 1000 * (n : Int) ≤ (Dc.shR f s n).dp
  | 0, n, s, hf, hs, h1, hn => by omega
  | f + 1, n, s, hf, hs, h1, hn => by
    rw [Dc.shR]
    by_cases h : 60 < n
    · rw [if_pos h]
      have r := Dc.rshift_ok s 60 hs h1 (by omega)
      have := Dc.shR_ok f (n - 60) (s.rshift 60) (by omega) r.1 r.2.1 (by omega)
      refine ⟨this.1, this.2.1, by omega, by omega⟩
    · rw [if_neg h]
      have r := Dc.rshift_ok s n hs h1 (by omega)
      exact ⟨r.1, r.2.1, by omega, by omega⟩

set_option maxHeartbeats 3200000 in
/-- Shift(-n), 0 < n. -/
theorem Shift_right (g B : Nat) (hB : B ≤ g) (n : Nat) (hn1 : 1 ≤ n) (hn : n ≤ 900000) (s : Dc) (hs : s.Ok) (h1 : 0 < s.nd) (hdp : -10000 ≤ s.dp) (hdp' : s.dp ≤ 10000) (w : World) (h : DAt w g s) :
    Calls Tryz.prog 100 #[.pointer (some ⟨g, 0, none⟩), .int .i64 (-(n : Int))] w (DPost B g w (Dc.shR n s n)) := by
  obtain ⟨R, hR⟩ : ∃ R, Dc.shR n s n = R := ⟨_, rfl⟩
  have HR := hid_of hR
  rw [hR]
  have c0 := h.nd
  have hn0 : ((s.nd : Int) == 0) = false := by rw [beq_eq_false_iff_ne]; omega
  have H := hid_of h
  have HS := hid_of hs
  have hng : ¬ (-(n : Int) > 0) := by omega
  clear hR h hs
  go_enter Tryz.func100, Tryz.ntmps100
  go_wp2_with fail
  go_loopg [1] n (fun f v1 wr => ∃ (s' : Dc) (m : Nat), v1 = .int .i64 (-(m : Int)) ∧ DAt wr g s' ∧ Below B w wr ∧ m ≤ f ∧ 1 ≤ m ∧ m ≤ n ∧ s'.Ok ∧ 0 < s'.nd ∧ s.dp - 1000 * ((n : Int) - m) ≤ s'.dp ∧ s'.dp ≤ s.dp ∧ Hid (Dc.shR f s' m = R))
  case atStart => exact ⟨s, n, rfl, H.out, Below.refl _ _, by omega, by omega, by omega, HS.out, h1, by omega, by omega, HR⟩
  case round =>
    obtain ⟨s', m, rfl, hD0, hb, hmf, hm1, hmn, hs', hnd', hdA, hdB, hq⟩ := hrel
    have hbb := hid_of hb
    clear c0 H HR
    obtain ⟨f, rfl⟩ : ∃ f, gk = f + 1 := ⟨gk - 1, by omega⟩
    by_cases h60 : 60 < m
    · have cR := rshift_calls g B hB 60 (by omega) s' hs' hnd' (by omega) (by omega) wr hD0
      have r := Dc.rshift_ok s' 60 hs' hnd' (by omega)
      have hst : Hid (Dc.shR (f + 1) s' m = Dc.shR f (s'.rshift 60) (m - 60)) := by show _ = _; rw [Dc.shR, if_pos h60]
      generalize s'.rshift 60 = s'' at cR r hst
      have r' := hid_of r
      clear r hs' hD0 hb
      have hlt60 : -(m : Int) < -60 := by omega
      go_wp2_with (go_at_call 106; go_fit cR; rintro e w' ⟨rfl, hD9, hb9⟩)
      go_roundg f
      case measure => omega
      case rel =>
        refine ⟨s'', m - 60, ?_, hD9, hbb.out.trans hb9, by omega, by omega, by omega, r'.out.1, r'.out.2.1, ?_, ?_, ?_⟩
        · congr 1; omega
        · have := r'.out.2.2; omega
        · have := r'.out.2.2; omega
        · show _ = _
          rw [← hst.out]; exact hq.out
    · have cR := rshift_calls g B hB m (by omega) s' hs' hnd' (by omega) (by omega) wr hD0
      rw [show s'.rshift m = R by rw [← hq.out]; exact (Dc.shR_stop h60).symm] at cR
      clear hs' hD0 hb hq
      have hlt60 : ¬ (-(m : Int) < -60) := by omega
      go_wp2_with (go_at_call 106; go_fit cR; rintro e w' ⟨rfl, hD9, hb9⟩)
      go_end0
      exact ⟨rfl, hD9, hbb.out.trans hb9⟩
end Go.Proofs.Qxb6606206aGreatDoor
