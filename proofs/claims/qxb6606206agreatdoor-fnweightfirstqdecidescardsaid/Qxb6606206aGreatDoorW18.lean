import Derived.Test.Qxb6606206aGreatDoorW17
import Derived.Test.Qxb6606206aGreatDoorL4
set_option linter.unusedSimpArgs false
set_option linter.unusedVariables false
namespace Go.Proofs.Qxb6606206aGreatDoor
open Go Go.RowKit
attribute [local go_sem] frombits_run

set_option maxHeartbeats 6400000 in
set_option maxRecDepth 20000 in
theorem pf64_gives (d p sg : Int) (hd0 : 0 ≤ d) (hd1 : d ≤ 18446744073709551615) (hp0 : -345 ≤ p) (hp1 : p ≤ 310) :
    ∃ f err, Err err ∧ ∀ w : World, P10 w → Calls Tryz.prog 83 #[.int .u64 d, .int .i64 p, .int .u64 sg] w fun e w' => e = .returned (.tuple #[.float .f64 f, err]) ∧ Below w.heap.size w w' := by
  have cLen := len_calls d hd0 hd1
  have hbl := bitLen_le d.toNat
  obtain ⟨b, hb⟩ : ∃ b : Nat, Lib.bitLen d.toNat = b := ⟨_, rfl⟩
  rw [hb] at cLen hbl
  obtain ⟨lp, hlp, cLg⟩ := log2_gives p (by omega) (by omega)
  have hlpa : -1147 ≤ lp ∧ lp ≤ 1030 := by rw [hlp]; omega
  obtain ⟨hlp0, hlp1⟩ := hlpa
  obtain ⟨E, hE⟩ : ∃ E : Int, E = if 53 - (b : Int) - lp < 1074 then 53 - (b : Int) - lp else 1074 := ⟨_, rfl⟩
  have hE0 : -1100 ≤ E ∧ E ≤ 1074 := by rw [hE]; split <;> omega
  obtain ⟨hE1, hE2⟩ := hE0
  have hmin : ∀ (ts : Array TypeId) (t : TypeId) (w : World), (Builtin.min_ ts t #[.int .i64 1074, .int .i64 (53 - (b : Int) - lp)]).run Tryz.prog w = .ok (.int .i64 E) w := fun ts t w => by
    rw [run_min_int2, hE]
  obtain ⟨i, hip⟩ : ∃ i : Nat, p = (i : Int) - 348 := ⟨(p + 348).toNat, by omega⟩
  have hi : i < 696 := by omega
  obtain ⟨S, hS⟩ : ∃ S : Int, -(E - (64 - (b : Int)) + lp + 3) = S := ⟨_, rfl⟩
  obtain ⟨hph, hpl⟩ := p_lt i (by omega)
  obtain ⟨X, hXX⟩ : ∃ X : Nat, X = (IntKind.u64.wrap (d * 2 ^ (64 - b))).toNat := ⟨_, rfl⟩
  have hw := wrapu_ok (d * 2 ^ (64 - b))
  have hX : X < 18446744073709551616 := by omega
  have hX1 : IntKind.u64.wrap (d * 2 ^ (64 - b)) = (X : Int) := by omega
  have hX2 : IntKind.u64.wrap (d * 2 ^ (64 - (b : Int)).toNat) = (X : Int) := by
    rw [← hX1]
    congr 3
    omega
  clear hXX hw
  obtain ⟨v, cU⟩ := uscale_gives X (pH i) (pL i) hX hph hpl S
  obtain ⟨um, cUn⟩ := unmin_gives 9007199254740992
  have hbi : Hid (b ≤ 64) := hbl
  clear hlp hE hph hpl hX hb
  subst hip
  by_cases hS64 : S ≥ 64
  · refine ⟨(bits .or .u64 sg 0).toNat, .nilIface, .inl rfl, fun w hP => ?_⟩
    have hb0 := hid_of ((Below.refl w.heap.size w).alloc (Nat.le_refl _) (.cells #[.int .u64 (pH i), .int .u64 (pL i), .int .i64 S] 129))
    have cPr := prescale_calls i hi (E - (64 - b)) lp (by omega) (by omega) (by omega) (by omega) w hP
    rw [hS] at cPr
    clear hP cU hS
    go_enter Tryz.func83, Tryz.ntmps83
    go_wp2_with (first
      | (go_at_call 92; go_fit (cLen _); rintro ee w' ⟨rfl, rfl⟩)
      | (go_at_call 93; go_fit (cLg _); rintro ee w' ⟨rfl, rfl⟩)
      | (go_at_call 94; go_fit cPr; rintro ee w' ⟨rfl, hww⟩; rw [hww]; clear hww))
    go_ret2
    exact ⟨rfl, hb0.out⟩
  · cases hb3 : decide (v ≥ um) with
    | true =>
      obtain ⟨r, cRd⟩ := round_gives (bits .or .u64 (v / 2) (bits .and .u64 v 1))
      obtain ⟨f, err, herr, cPk⟩ := pack_gives (bits .or .u64 sg r) (-(E - 1))
      have cBi : Gives 96 #[.bool true] (.int .i64 1) := bool2i_gives true
      refine ⟨f, err, herr, fun w hP => ?_⟩
      have hb0 := hid_of ((Below.refl w.heap.size w).alloc (Nat.le_refl _) (.cells #[.int .u64 (pH i), .int .u64 (pL i), .int .i64 S] 129))
      have cPr := prescale_calls i hi (E - (64 - b)) lp (by omega) (by omega) (by omega) (by omega) w hP
      rw [hS] at cPr
      have cUs := cU w.heap.size (w.alloc (.cells #[.int .u64 (pH i), .int .u64 (pL i), .int .i64 S] 129)) ⟨by simp [go_sem], by simp [go_sem], by simp [go_sem]⟩
      clear hP cU
      go_enter Tryz.func83, Tryz.ntmps83
      go_wp2_with (first
        | (go_at_call 92; go_fit (cLen _); rintro ee w' ⟨rfl, rfl⟩)
        | (go_at_call 93; go_fit (cLg _); rintro ee w' ⟨rfl, rfl⟩)
        | (go_at_call 94; go_fit cPr; rintro ee w' ⟨rfl, hww⟩; rw [hww]; clear hww)
        | (go_at_call 95; go_fit cUs; rintro ee w' ⟨rfl, hb1⟩)
        | (go_at_call 97; go_fit (cUn _); rintro ee w'' ⟨rfl, rfl⟩)
        | (go_at_call 96; go_fit (cBi _); rintro ee w'' ⟨rfl, rfl⟩)
        | (go_at_call 99; go_fit (cRd _); rintro ee w'' ⟨rfl, rfl⟩)
        | (go_at_call 102; go_fit (cPk _); rintro ee w'' ⟨rfl, rfl⟩))
      go_ret2
      exact ⟨rfl, hb0.out.trans (hb1.mono hb0.out.size)⟩
    | false =>
      obtain ⟨r, cRd⟩ := round_gives (bits .or .u64 v (bits .and .u64 v 1))
      obtain ⟨f, err, herr, cPk⟩ := pack_gives (bits .or .u64 sg r) (-E)
      have cBi : Gives 96 #[.bool false] (.int .i64 0) := bool2i_gives false
      refine ⟨f, err, herr, fun w hP => ?_⟩
      have hb0 := hid_of ((Below.refl w.heap.size w).alloc (Nat.le_refl _) (.cells #[.int .u64 (pH i), .int .u64 (pL i), .int .i64 S] 129))
      have cPr := prescale_calls i hi (E - (64 - b)) lp (by omega) (by omega) (by omega) (by omega) w hP
      rw [hS] at cPr
      have cUs := cU w.heap.size (w.alloc (.cells #[.int .u64 (pH i), .int .u64 (pL i), .int .i64 S] 129)) ⟨by simp [go_sem], by simp [go_sem], by simp [go_sem]⟩
      clear hP cU
      go_enter Tryz.func83, Tryz.ntmps83
      go_wp2_with (first
        | (go_at_call 92; go_fit (cLen _); rintro ee w' ⟨rfl, rfl⟩)
        | (go_at_call 93; go_fit (cLg _); rintro ee w' ⟨rfl, rfl⟩)
        | (go_at_call 94; go_fit cPr; rintro ee w' ⟨rfl, hww⟩; rw [hww]; clear hww)
        | (go_at_call 95; go_fit cUs; rintro ee w' ⟨rfl, hb1⟩)
        | (go_at_call 97; go_fit (cUn _); rintro ee w'' ⟨rfl, rfl⟩)
        | (go_at_call 96; go_fit (cBi _); rintro ee w'' ⟨rfl, rfl⟩)
        | (go_at_call 99; go_fit (cRd _); rintro ee w'' ⟨rfl, rfl⟩)
        | (go_at_call 102; go_fit (cPk _); rintro ee w'' ⟨rfl, rfl⟩))
      go_ret2
      exact ⟨rfl, hb0.out.trans (hb1.mono hb0.out.size)⟩
end Go.Proofs.Qxb6606206aGreatDoor
