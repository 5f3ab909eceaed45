import Derived.Test.Qxb6606206aGreatDoorW5
import Derived.Test.Qxb6606206aGreatDoorSh1
import GoSem.PinnedTables
import Derived.KernelRfl
import Derived.Deep.RegionWith
import Derived.Laws.BitsLemmas
set_option linter.unusedSimpArgs false
set_option linter.unusedVariables false
namespace Go.Proofs.Qxb6606206aGreatDoor
open Go Go.RowKit

theorem mul_calls (x y : Nat) (hx : x < 18446744073709551616) (hy : y < 18446744073709551616) : Gives 104 #[.int .u64 x, .int .u64 y] (.tuple #[.int .u64 ((x * y / 18446744073709551616 : Nat) : Int), .int .u64 ((x * y % 18446744073709551616 : Nat) : Int)]) :=
  fun w => Any.bits_Mul64 Tryz.lays264 x y hx hy w
theorem len_calls (x : Int) (h0 : 0 ≤ x) (h1 : x ≤ 18446744073709551615) : Gives 92 #[.int .u64 x] (.int .i64 (Lib.bitLen x.toNat)) :=
  fun w => Any.bits_Len64 Tryz.lays129 x w h0 h1
theorem bitLenAux_le : ∀ f x, Lib.bitLenAux f x ≤ f
  | 0, _ => by simp [Lib.bitLenAux]
  | f + 1, x => by
    have := bitLenAux_le f (x / 2)
    unfold Lib.bitLenAux
    split <;> omega
theorem bitLen_le (x : Nat) : Lib.bitLen x ≤ 64 := bitLenAux_le 64 x

def shrv (x s : Int) : Int := x / 2 ^ s.toNat
theorem shr_u64 (x : Int) (yk : IntKind) (y : Int) (h : 0 ≤ y) (h1 : y ≤ 64) : Op.shift .shr .u64 x yk y = pure (.int .u64 (shrv x y)) := shift_shr .u64 yk x y h h1
theorem and63 (a : Int) : 0 ≤ bits .and .i64 a 63 ∧ bits .and .i64 a 63 ≤ 63 := by
  have h63 : (BitVec.ofInt 64 63).toNat = 2 ^ 6 - 1 := by decide
  have key : (BitVec.ofInt 64 a &&& BitVec.ofInt 64 63).toNat = (a % ((2 ^ 64 : Nat) : Int)).toNat % 2 ^ 6 := by
    rw [BitVec.toNat_and, BitVec.toNat_ofInt, h63, Nat.and_two_pow_sub_one_eq_mod]
  have e : bits .and .i64 a 63 = a % 64 := by
    show IntKind.i64.wrap ((BitVec.ofInt 64 a &&& BitVec.ofInt 64 63).toNat : Nat) = a % 64
    rw [key, IntKind.wrap_i64]
    omega
  rw [e]; omega

/-- The scaler in block g. -/
structure SAt (w : World) (g : Nat) (hi lo s : Int) : Prop where
  c0 : w.cell? ⟨g, 0, none⟩ = some (.int .u64 hi)
  c1 : w.cell? ⟨g, 1, none⟩ = some (.int .u64 lo)
  c2 : w.cell? ⟨g, 2, none⟩ = some (.int .i64 s)

set_option maxHeartbeats 3200000 in
set_option maxRecDepth 20000 in
theorem uscale_gives (X ph pl : Nat) (hX : X < 18446744073709551616) (hph : ph < 18446744073709551616) (hpl : pl < 18446744073709551616) (cs : Int) :
    ∃ v : Int, ∀ (g : Nat) (w : World), SAt w g ph pl cs → Calls Tryz.prog 95 #[.int .u64 X, .pointer (some ⟨g, 0, none⟩)] w fun e w' => e = .returned (.int .u64 v) ∧ Below w.heap.size w w' := by
  have cM1 := mul_calls X ph hX hph
  have cM2 := mul_calls X pl hX hpl
  have hh1 : (X * ph / 18446744073709551616 : Nat) < 18446744073709551616 := by
    have : X * ph < 18446744073709551616 * 18446744073709551616 := Nat.mul_lt_mul'' hX hph
    exact Nat.div_lt_of_lt_mul this
  have hm1 : (X * ph % 18446744073709551616 : Nat) < 18446744073709551616 := Nat.mod_lt _ (by decide)
  have hh2 : (X * pl / 18446744073709551616 : Nat) < 18446744073709551616 := by
    have : X * pl < 18446744073709551616 * 18446744073709551616 := Nat.mul_lt_mul'' hX hpl
    exact Nat.div_lt_of_lt_mul this
  generalize (X * ph / 18446744073709551616 : Nat) = hi at cM1 hh1
  generalize (X * ph % 18446744073709551616 : Nat) = mid at cM1 hm1
  generalize (X * pl / 18446744073709551616 : Nat) = mid2 at cM2 hh2
  obtain ⟨s, hs⟩ : ∃ s, bits .and .i64 cs 63 = s := ⟨_, rfl⟩
  have hs63 := and63 cs
  rw [hs] at hs63
  have hA : ∀ x yk, Op.shift .shr .u64 x yk s = pure (.int .u64 (shrv x s)) := fun x yk => shr_u64 x yk s hs63.1 (by omega)
  have hBq : ∀ x yk, Op.shift .shl .u64 x yk s = pure (.int .u64 (shlv .u64 x s)) := fun x yk => shl_u64 x yk s hs63.1 (by omega)
  clear hs63
  have cB := bool2_gives
  cases t : (shlv .u64 (shrv hi s) s != (hi : Int)) with
  | true =>
    refine ⟨bits .or .u64 (shrv hi s) 1, fun g w h => ?_⟩
    have c0 := h.c0
    have c1 := h.c1
    have c2 := h.c2
    clear h
    go_enter Tryz.func95, Tryz.ntmps95
    go_wp2_with (go_at_call 104; go_fit (cM1 _); rintro e w' ⟨rfl, rfl⟩)
    go_ret
    exact ⟨rfl, Below.refl _ _⟩
  | false =>
    cases hb1 : decide (mid < mid2) with
    | true =>
     cases hb2 : decide (1 < IntKind.u64.wrap ((mid : Int) - (mid2 : Int))) with
     | true =>
      refine ⟨bits .or .u64 (shrv (IntKind.u64.wrap ((hi : Int) - 1)) s) 1, fun g w h => ?_⟩
      have c0 := h.c0
      have c1 := h.c1
      have c2 := h.c2
      clear h
      have cB1 : Gives 80 #[.bool true] (.int .u64 1) := cB true
      have cB2 : Gives 80 #[.bool true] (.int .u64 1) := cB true
      go_enter Tryz.func95, Tryz.ntmps95
      go_wp2_with (first | (go_at_call 104; (first | go_fit (cM1 _) | go_fit (cM2 _)); rintro e w' ⟨rfl, rfl⟩) | (go_at_call 80; go_fit (cB1 _); rintro e w' ⟨rfl, rfl⟩))
      go_region_with (go_at_call 80; go_fit (cB2 _); rintro e w' ⟨rfl, rfl⟩)
      all_goals
        go_wp2_with fail
        go_ret
        exact ⟨rfl, (Below.refl _ _).drew⟩
     | false =>
      refine ⟨bits .or .u64 (shrv (IntKind.u64.wrap ((hi : Int) - 1)) s) 0, fun g w h => ?_⟩
      have c0 := h.c0
      have c1 := h.c1
      have c2 := h.c2
      clear h
      have cB1 : Gives 80 #[.bool true] (.int .u64 1) := cB true
      have cB2 : Gives 80 #[.bool false] (.int .u64 0) := cB false
      go_enter Tryz.func95, Tryz.ntmps95
      go_wp2_with (first | (go_at_call 104; (first | go_fit (cM1 _) | go_fit (cM2 _)); rintro e w' ⟨rfl, rfl⟩) | (go_at_call 80; go_fit (cB1 _); rintro e w' ⟨rfl, rfl⟩))
      go_region_with (go_at_call 80; go_fit (cB2 _); rintro e w' ⟨rfl, rfl⟩)
      all_goals
        go_wp2_with fail
        go_ret
        exact ⟨rfl, (Below.refl _ _).drew⟩
    | false =>
     cases hb2 : decide (1 < IntKind.u64.wrap ((mid : Int) - (mid2 : Int))) with
     | true =>
      refine ⟨bits .or .u64 (shrv ((hi : Int)) s) 1, fun g w h => ?_⟩
      have c0 := h.c0
      have c1 := h.c1
      have c2 := h.c2
      clear h
      have cB1 : Gives 80 #[.bool false] (.int .u64 0) := cB false
      have cB2 : Gives 80 #[.bool true] (.int .u64 1) := cB true
      go_enter Tryz.func95, Tryz.ntmps95
      go_wp2_with (first | (go_at_call 104; (first | go_fit (cM1 _) | go_fit (cM2 _)); rintro e w' ⟨rfl, rfl⟩) | (go_at_call 80; go_fit (cB1 _); rintro e w' ⟨rfl, rfl⟩))
      go_region_with (go_at_call 80; go_fit (cB2 _); rintro e w' ⟨rfl, rfl⟩)
      all_goals
        go_wp2_with fail
        go_ret
        exact ⟨rfl, (Below.refl _ _).drew⟩
     | false =>
      refine ⟨bits .or .u64 (shrv ((hi : Int)) s) 0, fun g w h => ?_⟩
      have c0 := h.c0
      have c1 := h.c1
      have c2 := h.c2
      clear h
      have cB1 : Gives 80 #[.bool false] (.int .u64 0) := cB false
      have cB2 : Gives 80 #[.bool false] (.int .u64 0) := cB false
      go_enter Tryz.func95, Tryz.ntmps95
      go_wp2_with (first | (go_at_call 104; (first | go_fit (cM1 _) | go_fit (cM2 _)); rintro e w' ⟨rfl, rfl⟩) | (go_at_call 80; go_fit (cB1 _); rintro e w' ⟨rfl, rfl⟩))
      go_region_with (go_at_call 80; go_fit (cB2 _); rintro e w' ⟨rfl, rfl⟩)
      all_goals
        go_wp2_with fail
        go_ret
        exact ⟨rfl, (Below.refl _ _).drew⟩

/-- The table pow10Tab, row i. -/
def pH (i : Nat) : Nat := (Pinned.pow10Rows.getD i (0, 0)).1
def pL (i : Nat) : Nat := (Pinned.pow10Rows.getD i (0, 0)).2
theorem pAll : ((List.range 700).all fun i => decide (pH i < 18446744073709551616) && decide (pL i < 18446744073709551616)) = true := by kernel_rfl
theorem p_lt (i : Nat) (h : i < 700) : pH i < 18446744073709551616 ∧ pL i < 18446744073709551616 := by
  have := List.all_eq_true.1 pAll i (by simpa using h)
  simpa using this
structure P10 (w : World) : Prop where
  row : ∀ i, i < 696 → w.cell? ⟨14, i * 2, none⟩ = some (.int .u64 (pH i)) ∧ w.cell? ⟨14, i * 2 + 1, none⟩ = some (.int .u64 (pL i))
theorem P10.below {w w' : World} (h : P10 w) (hb : Below w.heap.size w w') : P10 w' := ⟨fun i hi => by
  have h1 := World.block_lt_of_cell? w _ (h.row i hi).1
  exact ⟨(hb.cell (p := ⟨14, i * 2, none⟩) h1).trans (h.row i hi).1, (hb.cell (p := ⟨14, i * 2 + 1, none⟩) h1).trans (h.row i hi).2⟩⟩

set_option maxHeartbeats 3200000 in
set_option maxRecDepth 20000 in
theorem prescale_calls (i : Nat) (hi : i < 696) (e lp : Int) (he : -100000 ≤ e) (he' : e ≤ 100000) (hl : -100000 ≤ lp) (hl' : lp ≤ 100000) (w : World) (hP : P10 w) :
    Calls Tryz.prog 94 #[.pointer (some ⟨w.heap.size, 0, none⟩), .int .i64 e, .int .i64 ((i : Int) - 348), .int .i64 lp] (w.alloc (.cells #[.int .u64 0, .int .u64 0, .int .i64 0] 129)) fun ee w' => ee = .returned (.tuple #[]) ∧ w' = w.alloc (.cells #[.int .u64 (pH i), .int .u64 (pL i), .int .i64 (-(e + lp + 3))] 129) := by
  have h1 := World.block_lt_of_cell? w _ (hP.row i hi).1
  have h14 : 14 < w.heap.size := h1
  have t0 := (hP.row i hi).1
  have t1 := (hP.row i hi).2
  have hidx : (i : Int) - 348 - -348 = (i : Int) := by omega
  clear hP h1
  go_enter Tryz.func94, Tryz.ntmps94
  go_wp2_with fail
  go_end0
  exact ⟨rfl, rfl⟩
end Go.Proofs.Qxb6606206aGreatDoor
