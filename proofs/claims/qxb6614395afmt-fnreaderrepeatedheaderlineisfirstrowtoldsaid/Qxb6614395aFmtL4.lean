import Derived.Test.Qxb6614395aFmtL3
set_option linter.unusedSimpArgs false
set_option linter.unusedVariables false
namespace Go.Proofs.Qxb6614395aFmt
open Go

/-- A line without quotes, split at its commas; its end is no part of it. -/
def splF : Nat → List UInt8 → List (List UInt8)
  | 0, l => [l]
  | f + 1, l => if 44 ∈ l then l.take (Lib.indexByte l 44).toNat :: splF f (l.drop ((Lib.indexByte l 44).toNat + 1)) else [if l.getLast? = some 10 then l.dropLast else l]
def spl (l : List UInt8) : List (List UInt8) := splF (l.length + 1) l

inductive RRes where
  | err : RRes
  | ok (fields : List (List UInt8)) (line : Nat) (s : Nat × Bool) (rest : List UInt8) : RRes

/-- The next record: empty lines are passed over. -/
def rr : Nat → (Nat × Bool) → List UInt8 → Nat → RRes
  | 0, _, _, _ => .err
  | f + 1, s, rest, nl =>
    if rest = [] then .err else if 65536 < s.1 + lineLen rest then .err
    else if norm (rest.take (lineLen rest)) = [] ∨ norm (rest.take (lineLen rest)) = [10] then rr f (adv s (rest.take (lineLen rest))) (rest.drop (lineLen rest)) (nl + 1)
    else .ok (spl (norm (rest.take (lineLen rest)))) (nl + 1) (adv s (rest.take (lineLen rest))) (rest.drop (lineLen rest))

theorem rr_nil (f : Nat) (s : Nat × Bool) (nl : Nat) : rr f s [] nl = .err := by cases f <;> simp [rr]
theorem rr_trip {f : Nat} {s : Nat × Bool} {rest : List UInt8} {nl : Nat} (h : 65536 < s.1 + lineLen rest) : rr f s rest nl = .err := by
  cases f with
  | zero => rfl
  | succ f => simp [rr, h]
theorem rr_skip {f : Nat} {s : Nat × Bool} {rest : List UInt8} {nl : Nat} (h0 : rest ≠ []) (h : s.1 + lineLen rest ≤ 65536) (he : norm (rest.take (lineLen rest)) = [] ∨ norm (rest.take (lineLen rest)) = [10]) :
    rr (f + 1) s rest nl = rr f (adv s (rest.take (lineLen rest))) (rest.drop (lineLen rest)) (nl + 1) := by
  rw [rr, if_neg h0, if_neg (by omega), if_pos he]
theorem rr_rec {f : Nat} {s : Nat × Bool} {rest : List UInt8} {nl : Nat} (h0 : rest ≠ []) (h : s.1 + lineLen rest ≤ 65536) (he : ¬ (norm (rest.take (lineLen rest)) = [] ∨ norm (rest.take (lineLen rest)) = [10])) :
    rr (f + 1) s rest nl = .ok (spl (norm (rest.take (lineLen rest)))) (nl + 1) (adv s (rest.take (lineLen rest))) (rest.drop (lineLen rest)) := by
  rw [rr, if_neg h0, if_neg (by omega), if_neg he]
end Go.Proofs.Qxb6614395aFmt
