import Derived.Test.Qxb6606206aGreatDoorL2
import Derived.WalkKit
set_option linter.unusedSimpArgs false
set_option linter.unusedVariables false
namespace Go.Proofs.Qxb6606206aGreatDoor
open Go
namespace Dc
theorem rsB_go {k f r n : Nat} (h : n < 2 ^ k) : rsB k (f + 1) r n = rsB k f (r + 1) (n * 10) := by rw [rsB, if_pos (div_pow_zero.2 h)]
theorem rsB_stop {k f r n : Nat} (h : 2 ^ k ≤ n) : rsB k f r n = (r, n) := by
  cases f with
  | zero => rfl
  | succ f => rw [rsB, if_neg (by rw [div_pow_zero]; omega)]
theorem rsA_go {s : Dc} {k f r n : Nat} (h : n < 2 ^ k) (hr : r < s.nd) : rsA s k (f + 1) r n = rsA s k f (r + 1) (n * 10 + (s.d r - 48)) := by rw [rsA, if_pos (div_pow_zero.2 h), if_pos hr]
theorem rsA_in {s : Dc} {k f r n : Nat} (h : n < 2 ^ k) (hr : ¬ r < s.nd) : rsA s k (f + 1) r n = rsB k 100 r n := by rw [rsA, if_pos (div_pow_zero.2 h), if_neg hr]
theorem rsA_stop {s : Dc} {k f r n : Nat} (h : 2 ^ k ≤ n) : rsA s k f r n = (r, n) := by
  cases f with
  | zero => rfl
  | succ f => rw [rsA, if_neg (by rw [div_pow_zero]; omega)]
theorem rsC_go {k f : Nat} {s : Dc} {r w n : Nat} (hr : r < s.nd) : rsC k (f + 1) s r w n = rsC k f (s.put w (n / 2 ^ k + 48)) (r + 1) (w + 1) (n % 2 ^ k * 10 + (s.d r - 48)) := by rw [rsC, if_pos hr]
theorem rsC_stop {k f : Nat} {s : Dc} {r w n : Nat} (hr : ¬ r < s.nd) : rsC k f s r w n = (s, w, n) := by
  cases f with
  | zero => rfl
  | succ f => rw [rsC, if_neg hr]
theorem rsD_put {k f : Nat} {s : Dc} {w n : Nat} (hn : n ≠ 0) (hw : w < 800) : rsD k (f + 1) s w n = rsD k f (s.put w (n / 2 ^ k + 48)) (w + 1) (n % 2 ^ k * 10) := by rw [rsD, if_neg hn, if_pos hw]
theorem rsD_tr {k f : Nat} {s : Dc} {w n : Nat} (hn : n ≠ 0) (hw : ¬ w < 800) (hd : 0 < n / 2 ^ k) : rsD k (f + 1) s w n = rsD k f { s with tr := true } w (n % 2 ^ k * 10) := by rw [rsD, if_neg hn, if_neg hw, if_pos hd]
theorem rsD_no {k f : Nat} {s : Dc} {w n : Nat} (hn : n ≠ 0) (hw : ¬ w < 800) (hd : ¬ 0 < n / 2 ^ k) : rsD k (f + 1) s w n = rsD k f s w (n % 2 ^ k * 10) := by rw [rsD, if_neg hn, if_neg hw, if_neg hd]
theorem rsD_stop {k f : Nat} {s : Dc} {w n : Nat} (hn : n = 0) : rsD k f s w n = (s, w) := by
  cases f with
  | zero => rfl
  | succ f => rw [rsD, if_pos hn]
theorem dvd_step {j k n : Nat} (hj : 2 ^ j ∣ n) : 2 ^ (j + 1) ∣ n % 2 ^ k * 10 := by
  rcases Nat.lt_or_ge j k with hjk | hjk
  · have h1 : 2 ^ j ∣ n % 2 ^ k := by
      rw [Nat.dvd_mod_iff (Nat.pow_dvd_pow 2 (Nat.le_of_lt hjk))]
      exact hj
    obtain ⟨c, hc⟩ := h1
    exact ⟨c * 5, by rw [hc, Nat.pow_succ, show 2 ^ j * 2 * (c * 5) = 2 ^ j * c * 10 by rw [Nat.mul_assoc, Nat.mul_assoc]; congr 1; omega]⟩
  · have h1 : n % 2 ^ k = 0 := Nat.mod_eq_zero_of_dvd (Nat.dvd_trans (Nat.pow_dvd_pow 2 hjk) hj)
    rw [h1]; exact ⟨0, by simp⟩
theorem low_lt {j n : Nat} (h : 2 ^ j ∣ n) (h0 : n ≠ 0) (h1 : n < 10 * 2 ^ 60) : j < 64 := by
  have := Nat.le_of_dvd (Nat.pos_of_ne_zero h0) h
  rcases Nat.lt_or_ge j 64 with h2 | h2
  · exact h2
  · have h3 : (2 : Nat) ^ 64 ≤ 2 ^ j := Nat.pow_le_pow_right (by decide) h2
    have h4 : (10 : Nat) * 2 ^ 60 < 2 ^ 64 := by decide
    omega
theorem ten_lt {j n : Nat} (h : 10 ^ j ≤ n) (h1 : n < 10 * 2 ^ 60) : j < 21 := by
  rcases Nat.lt_or_ge j 21 with h2 | h2
  · exact h2
  · have h3 : (10 : Nat) ^ 21 ≤ 10 ^ j := Nat.pow_le_pow_right (by decide) h2
    have h4 : (10 : Nat) * 2 ^ 60 < 10 ^ 21 := by decide
    omega
end Dc

/-! ### the shifts of a uint64, at Nats -/
theorem shr_nat (k n : Nat) (hk : k ≤ 60) (yk : IntKind) : Op.shift .shr .u64 (n : Int) yk (k : Int) = pure (.int .u64 ((n / 2 ^ k : Nat) : Int)) := by
  rw [shift_shr .u64 yk n k (by omega) (by simp [IntKind.bits]; omega)]
  simp
theorem shl_nat (k d : Nat) (hk : k ≤ 60) (hd : d ≤ 9) (yk : IntKind) : Op.shift .shl .u64 (d : Int) yk (k : Int) = pure (.int .u64 ((d * 2 ^ k : Nat) : Int)) := by
  have h2 : (2 : Nat) ^ k ≤ 2 ^ 60 := Nat.pow_le_pow_right (by decide) hk
  have h60 : (2 : Nat) ^ 60 = 1152921504606846976 := by decide
  have h3 : d * 2 ^ k ≤ 9 * 1152921504606846976 := Nat.mul_le_mul hd (by omega)
  rw [shift_shl .u64 yk d k (by omega) (by simp [IntKind.bits]; omega), IntKind.wrap_u64]
  have e : (d : Int) * 2 ^ (k : Int).toNat = ((d * 2 ^ k : Nat) : Int) := by simp
  rw [e]
  congr 3
  omega
theorem and_mask (k n : Nat) (hk : k ≤ 60) (hn : n < 18446744073709551616) : bits .and .u64 (n : Int) (((2 ^ k : Nat) : Int) - 1) = ((n % 2 ^ k : Nat) : Int) := by
  have hp := Nat.two_pow_pos k
  have h2 : (2 : Nat) ^ k ≤ 2 ^ 60 := Nat.pow_le_pow_right (by decide) hk
  have h60 : (2 : Nat) ^ 60 = 1152921504606846976 := by decide
  have e : (((2 ^ k : Nat) : Int) - 1) = ((2 ^ k - 1 : Nat) : Int) := by omega
  rw [e, u64_and _ _ (by omega) (by omega) (by omega) (by omega)]
  simp only [Int.toNat_natCast]
  rw [Nat.and_two_pow_sub_one_eq_mod]
end Go.Proofs.Qxb6606206aGreatDoor
