import Derived.Test.Qxb6614395aFmtSh1
import Derived.Test.Qxb6614395aFmtW28
set_option linter.unusedSimpArgs false
set_option linter.unusedVariables false
namespace Go.Proofs.Qxb6614395aFmt
open Go Go.RowKit Go.Deep Go.Extern.Stop Go.Stop Go.Extern

/-- Only new blocks. -/
theorem only_of_below {w w' : World} (h : Below w.heap.size w w') : Only (fun _ => False) w w' := by
  refine ⟨h.os, h.tape, h.output, h.size, fun k hk _ => h.block k hk, fun k hk => ?_⟩
  exact hk.same (h.block k hk.lt)

/-- The header in memory. -/
def Hdr (w : World) (g : Nat) (v : Value) (xs : List (List UInt8)) : Prop :=
  (v = .slice none 0 0 ∧ xs = []) ∨ ∃ b cap, v = .slice (some ⟨b, 0, none⟩) xs.length cap ∧ Strs w b 0 xs ∧ b < g ∧ xs.length ≤ cap
theorem Hdr.only {S : Nat → Prop} {w w' : World} {g : Nat} {v : Value} {xs : List (List UInt8)} (h : Hdr w g v xs) (ho : Only S w w') (hS : ∀ k, k < g → ¬ S k) : Hdr w' g v xs := by
  rcases h with h | ⟨b, cap, h1, h2, h3, h4⟩
  · exact .inl h
  · exact .inr ⟨b, cap, h1, h2.only ho (hS b h3), h3, h4⟩

theorem lens_flat : ∀ xs : List (List UInt8), Lib.lens xs = xs.flatten.length := by
  intro xs
  induction xs with
  | nil => rfl
  | cons x r ih =>
    rw [List.flatten_cons, List.length_append, ← ih]
    simp [Lib.lens]
theorem join_len (xs : List (List UInt8)) : (Lib.join xs [44]).length ≤ xs.flatten.length + xs.length := by
  cases xs with
  | nil => simp [Lib.join_nil]
  | cons x r =>
    rw [Lib.join_length, lens_flat]
    show 1 * r.length + _ ≤ _ + (r.length + 1)
    omega

theorem join_calls (g : Nat) (v : Value) (xs : List (List UInt8)) (w : World) (h : Hdr w g v xs) (hg : g ≤ w.heap.size) (hn : xs.length ≤ 1000000) (hl : xs.flatten.length ≤ 1000000) :
    Calls Tryf.prog 36 #[v, .string ⟨#[44]⟩] w fun e w' => (∃ s : ByteArray, e = .returned (.string s) ∧ s.size ≤ 2000000) ∧ Only (fun _ => False) w w' := by
  rcases h with ⟨rfl, rfl⟩ | ⟨b, cap, rfl, h2, h3, h4⟩
  · exact (Any.strings_Join_none Tryf.lays156 Tryf.Builder_Extra_156 none 0 ⟨#[44]⟩ w).mono fun e w' ⟨he, hw⟩ => ⟨⟨_, he, by decide⟩, hw ▸ Only.refl _ _⟩
  · have c := Any.strings_Join Tryf.lays156 Tryf.Builder_Extra_156 b 0 cap (xs.map str) ⟨#[44]⟩ w (fun j x hx => by
      rw [List.getElem?_map] at hx
      obtain ⟨y, hy, rfl⟩ := Option.map_eq_some_iff.1 hx
      obtain ⟨hj, rfl⟩ := List.getElem?_eq_some_iff.1 hy
      exact h2 j hj) (by omega) (by rw [List.length_map]; omega) (by rw [List.length_map]; omega) (by
        have e : (xs.map str).map (·.data.toList) = xs := by
          rw [List.map_map]
          conv => rhs; rw [← List.map_id xs]
          rfl
        rw [e]
        have := join_len xs
        show (Lib.join xs [44]).length ≤ _
        omega)
    rw [List.length_map] at c
    exact c.mono fun e w' ⟨he, hw⟩ => ⟨⟨_, he, by
      have e2 : (xs.map str).map (·.data.toList) = xs := by
        rw [List.map_map]
        conv => rhs; rw [← List.map_id xs]
        rfl
      rw [e2]
      have := join_len xs
      show (Lib.join xs [44]).toArray.size ≤ _
      rw [List.size_toArray]
      omega⟩, only_of_below hw⟩
end Go.Proofs.Qxb6614395aFmt
