import Derived.Test.Qxb6614395aFmtL2
set_option linter.unusedSimpArgs false
set_option linter.unusedVariables false
namespace Go.Proofs.Qxb6614395aFmt
open Go

/-- A line as csv sees it: CR LF at the end is LF; without an end, a CR there is dropped. -/
def norm (x : List UInt8) : List UInt8 :=
  if x.getLast? = some 10 then (if x.dropLast.getLast? = some 13 then x.dropLast.dropLast ++ [10] else x)
  else if x.getLast? = some 13 then x.dropLast else x

theorem getLast?_at (x : List UInt8) (n : Nat) (h : x.length = n + 1) : x.getLast? = some (x[n]'(by omega)) := by
  have e : x.length - 1 = n := by omega
  rw [List.getLast?_eq_getElem?]
  simp only [e]
  exact List.getElem?_eq_getElem (by omega)
theorem norm_crlf (x : List UInt8) (n : Nat) (h : x.length = n + 2) (h1 : x[n + 1] = 10) (h2 : x[n] = 13) : norm x = x.take n ++ [10] := by
  unfold norm
  rw [getLast?_at x (n + 1) h, h1, if_pos rfl]
  have : x.dropLast.getLast? = some 13 := by
    rw [getLast?_at _ n (by simp; omega)]
    simp [h2]
  rw [if_pos this]
  congr 1
  rw [List.dropLast_eq_take, List.dropLast_eq_take, List.take_take]
  simp [h]
theorem norm_lf (x : List UInt8) (n : Nat) (h : x.length = n + 1) (h1 : x[n] = 10) (h2 : ∀ m, n = m + 1 → ∀ hm, x[m]'hm ≠ 13) : norm x = x := by
  unfold norm
  rw [getLast?_at x n h, h1, if_pos rfl]
  rw [if_neg]
  intro hc
  cases n with
  | zero =>
    have : x.dropLast = [] := List.eq_nil_of_length_eq_zero (by simp; omega)
    rw [this] at hc
    simp at hc
  | succ m =>
    rw [getLast?_at _ m (by simp; omega)] at hc
    simp at hc
    exact h2 m rfl (by omega) hc
theorem norm_cr (x : List UInt8) (n : Nat) (h : x.length = n + 1) (h1 : x[n] = 13) : norm x = x.take n := by
  unfold norm
  rw [getLast?_at x n h, h1, if_neg (by decide), if_pos rfl, List.dropLast_eq_take, h]
  rfl
theorem norm_plain (x : List UInt8) (n : Nat) (h : x.length = n + 1) (h1 : x[n] ≠ 13) (h2 : x[n] ≠ 10) : norm x = x := by
  unfold norm
  rw [getLast?_at x n h, if_neg (by simpa using h2), if_neg (by simpa using h1)]
theorem norm_nil : norm [] = [] := rfl
end Go.Proofs.Qxb6614395aFmt
