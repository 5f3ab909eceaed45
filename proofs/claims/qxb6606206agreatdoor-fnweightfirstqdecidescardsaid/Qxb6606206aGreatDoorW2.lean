import Derived.Test.Qxb6606206aGreatDoorW1
set_option linter.unusedSimpArgs false
set_option linter.unusedVariables false
namespace Go.Proofs.Qxb6606206aGreatDoor
open Go Go.RowKit
attribute [local go_sem] frombits_run
def shlv (k : IntKind) (x y : Int) : Int := k.wrap (x * 2 ^ y.toNat)
theorem shl_u64 (x : Int) (yk : IntKind) (y : Int) (h : 0 ≤ y) (h1 : y ≤ 64) : Op.shift .shl .u64 x yk y = pure (.int .u64 (shlv .u64 x y)) := shift_shl .u64 yk x y h h1
theorem shl_u64_52 (x : Int) (yk : IntKind) : Op.shift .shl .u64 x yk 52 = pure (.int .u64 (shlv .u64 x 52)) := shl_u64 x yk 52 (by decide) (by decide)
attribute [local go_sem high] shl_u64_52

set_option maxHeartbeats 400000 in
/-- pack64: a float and whether it is out of range. -/
theorem pack_gives (m e : Int) : ∃ f err, Err err ∧ Gives 102 #[.int .u64 m, .int .i64 e] (.tuple #[.float .f64 f, err]) := by
  by_cases h : (bits .and .u64 m 4503599627370496 == 0) = true
  · refine ⟨m.toNat, .nilIface, .inl rfl, fun w => ?_⟩
    go_enter Tryz.func102, Tryz.ntmps102
    go_wp2
    go_ret2
    exact ⟨rfl, rfl⟩
  · rw [Bool.not_eq_true] at h
    by_cases h2 : e ≥ 972
    · refine ⟨(bits .or .u64 (bits .and .u64 m 9223372036854775808) 9218868437227405312).toNat, .iface 65 (.int .i64 1), .inr (.inl rfl), fun w => ?_⟩
      go_enter Tryz.func102, Tryz.ntmps102
      go_wp2
      go_ret2
      exact ⟨rfl, rfl⟩
    · refine ⟨(bits .or .u64 (bits .andNot .u64 m 4503599627370496) (shlv .u64 (IntKind.u64.wrap (wrap64 (1075 + e))) 52)).toNat, .nilIface, .inl rfl, fun w => ?_⟩
      go_enter Tryz.func102, Tryz.ntmps102
      go_wp2
      go_ret2
      exact ⟨rfl, rfl⟩
end Go.Proofs.Qxb6606206aGreatDoor
