import Derived.Test.Qxb6614395aFmtL6
set_option linter.unusedSimpArgs false
set_option linter.unusedVariables false
namespace Go.Proofs.Qxb6614395aFmt
open Go

/-- The records of a first result. -/
def rowsR : RRes → List (List (List UInt8) × Nat)
  | .err => []
  | .ok flds ln s rest => (flds, ln) :: rows s rest ln
theorem rowsR_nxt (s : Nat × Bool) (rest : List UInt8) (nl : Nat) : rowsR (nxt s rest nl) = rows s rest nl := by
  cases e : nxt s rest nl with
  | err => rw [rows_err e]; rfl
  | ok flds ln s' rest' => rw [rows_ok e]; rfl
theorem rr_bound : ∀ (f : Nat) (s : Nat × Bool) (rest : List UInt8) (nl : Nat) {flds : List (List UInt8)} {ln : Nat} {s' : Nat × Bool} {rest' : List UInt8}, rr f s rest nl = .ok flds ln s' rest' → ln + rest'.length ≤ nl + rest.length ∧ ∀ b ∈ rest', b ∈ rest
  | 0, _, _, _, _, _, _, _, h => by simp [rr] at h
  | f + 1, s, rest, nl, flds, ln, s', rest', h => by
    rw [rr] at h
    by_cases h0 : rest = []
    · rw [if_pos h0] at h; cases h
    · rw [if_neg h0] at h
      have hp : 0 < lineLen rest := lineLen_pos (List.length_pos_iff.2 h0)
      have hpl := List.length_pos_iff.2 h0
      have hle := lineLen_le rest
      split at h
      · cases h
      · split at h
        · have ⟨h1, h2⟩ := rr_bound f _ _ _ h
          rw [List.length_drop] at h1
          exact ⟨by omega, fun b hb => List.mem_of_mem_drop (h2 b hb)⟩
        · simp only [RRes.ok.injEq] at h
          obtain ⟨-, rfl, -, rfl⟩ := h
          rw [List.length_drop]
          exact ⟨by omega, fun b hb => List.mem_of_mem_drop hb⟩
/-- What comes behind a result may be read on. -/
def GoodR : RRes → Prop
  | .err => True
  | .ok _ ln _ rest => 34 ∉ rest ∧ ln + rest.length ≤ 1000000
theorem good_nxt {s : Nat × Bool} {rest : List UInt8} {nl : Nat} (h : 34 ∉ rest) (hn : nl + rest.length ≤ 1000000) : GoodR (nxt s rest nl) := by
  cases e : nxt s rest nl with
  | err => trivial
  | ok flds ln s' rest' =>
    have ⟨h1, h2⟩ := rr_bound _ _ _ _ e
    exact ⟨fun hm => h (h2 _ hm), by omega⟩
end Go.Proofs.Qxb6614395aFmt
