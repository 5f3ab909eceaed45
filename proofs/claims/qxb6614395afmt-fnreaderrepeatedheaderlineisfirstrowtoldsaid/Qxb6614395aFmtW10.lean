import Derived.Test.Qxb6614395aFmtW9
import Derived.Deep.AppendLies
set_option linter.unusedSimpArgs false
set_option linter.unusedVariables false
namespace Go.Proofs.Qxb6614395aFmt
open Go Go.RowKit Go.Deep Go.Extern.Stop Go.Stop Go.Extern

theorem infoB : (Tryf.prog.info? 5).map (fun i => (i.zero, i.size, i.bytes)) = some (some (.int .u8 0), 1, 1) := by kernel_rfl
theorem infoI : (Tryf.prog.info? 3).map (fun i => (i.zero, i.size, i.bytes)) = some (some (.int .i64 0), 1, 8) := by kernel_rfl
theorem infoP : (Tryf.prog.info? 85).map (fun i => (i.zero, i.size, i.bytes)) = some (some (.agg #[.int .i64 0, .int .i64 0]), 2, 16) := by kernel_rfl
theorem infoS : (Tryf.prog.info? 9).map (fun i => (i.zero, i.size, i.bytes)) = some (some (.string ⟨#[]⟩), 1, 16) := by kernel_rfl

/-- The world behind an append: as it was, or the row written on, or a new row. -/
def Grew (v : Value) (w : World) (v' : Value) (w' : World) : Prop :=
  (w' = w ∧ v'.ownBlock = v.ownBlock) ∨ (∃ k cs, v.ownBlock = some k ∧ w' = w.setRow k cs ∧ v'.ownBlock = some k) ∨ ∃ o, w' = w.drew.alloc o ∧ v'.ownBlock = some w.heap.size
theorem Grew.loc {v v' : Value} {w w' : World} (h : Grew v w v' w') : v'.ownBlock = v.ownBlock ∨ v'.ownBlock = some w.heap.size := by
  rcases h with ⟨-, h⟩ | ⟨k, cs, h1, -, h2⟩ | ⟨o, -, h⟩
  · exact .inl h
  · exact .inl (h2.trans h1.symm)
  · exact .inr h
theorem Grew.only {v v' : Value} {w w' w0 : World} {S : Nat → Prop} (h : Grew v w v' w') (ho : Only S w0 w) (hS : ∀ k, v.ownBlock = some k → S k ∨ w0.heap.size ≤ k) : Only S w0 w' := by
  rcases h with ⟨rfl, -⟩ | ⟨k, cs, h1, rfl, h2⟩ | ⟨o, rfl, h⟩
  · exact ho
  · exact ho.setRow (hS k h1) cs
  · exact ho.drew.alloc o
/-- What an append leaves. -/
def AppPost (base e size : Nat) (v : Value) (k : Nat) (ys : List Value) (w : World) (v' : Value) (w' : World) : Prop :=
  w'.ownsRow base e size v' k ys ∧ Grew v w v' w'

theorem append_any {t e size bytes : Nat} {z : Value} (ht : Tryf.prog.underlying t = some (.slice e)) (hinfo : (Tryf.prog.info? e).map (fun i => (i.zero, i.size, i.bytes)) = some (some z, size, bytes)) (hzs : z.cells.size = size) (hsz : 0 < size) (hb16 : bytes ≤ 16)
    (base : Nat) (w : World) (ty : TypeId) (v : Value) (n : Nat) (xs : List Value) (hown : w.ownsRow base e size v n xs) (a : Addr) (m c : Nat) (news : List Value) (hl : news.length = m * size)
    (hnews : ∀ j u, news[j]? = some u → w.cell? (a.add j) = some u) (h1 : ∀ u ∈ news, u.oneCell' = true) (hn : n + m ≤ 1000000000) (hbase : base ≤ w.heap.size) :
    ∃ v' w', (Builtin.append_ #[t, t] ty #[v, .slice (some a) m c]).run Tryf.prog w = .ok v' w' ∧ AppPost base e size v (n + m) (xs ++ news) w v' w' := by
  obtain ⟨i, hi, hzz⟩ := Option.map_eq_some_iff.1 hinfo
  simp only [Prod.mk.injEq] at hzz
  obtain ⟨hz, hs, hb⟩ := hzz
  have hby : (n + m) * bytes ≤ 140737488355328 := by
    have : (n + m) * bytes ≤ 1000000000 * 16 := Nat.mul_le_mul hn hb16
    omega
  obtain ⟨v', w', h2, h3, h4, h6, h5⟩ := run_append_own_at (P := Tryf.prog) w base t ty e i z size bytes ht hi hz hs hb hzs hsz v n xs hown a m c news hl hnews h1 (by unfold maxLen; omega) hby hbase
  refine ⟨v', w', h2, h3, ?_⟩
  subst hs
  subst hb
  rcases hown.2 with ⟨rfl, rfl⟩ | ⟨g, cap, cur, rfl, hbg, hg, hnc, hcm, hcs, htake⟩
  · have hx : xs = [] := List.eq_nil_of_length_eq_zero (by simpa using hown.1)
    subst hx
    by_cases hm : m = 0
    · subst hm
      have hr : (Builtin.append_ #[t, t] ty #[.slice none 0 0, .slice (some a) 0 c]).run Tryf.prog w = .ok (.slice none 0 0) w := by
        simp [Builtin.append_, run_underlying ht, sizeOf, typeInfo, hi, Builtin.lenOf, Builtin.firstCells, loadCells, loadCellsFrom]
      rw [hr] at h2
      simp only [Result.ok.injEq] at h2
      obtain ⟨rfl, rfl⟩ := h2
      exact .inl ⟨rfl, rfl⟩
    · have hr := run_append_nil (P := Tryf.prog) w t ty e i z ht hi hz a m c news hl hnews (by omega) (by omega) (by simp only [Nat.zero_add] at hby; omega)
      rw [hr] at h2
      simp only [Result.ok.injEq] at h2
      obtain ⟨rfl, rfl⟩ := h2
      exact .inr (.inr ⟨_, rfl, rfl⟩)
  · by_cases hroom : n + m ≤ cap
    · have hfit : n * i.size + news.length ≤ cur.size := by rw [hl, hcs, ← Nat.add_mul]; exact Nat.mul_le_mul_right _ hroom
      have hr := run_append_room (P := Tryf.prog) w t ty e i ht hi g n cap cur hg a m c news hl hnews h1 hroom hfit
      rw [hr] at h2
      simp only [Result.ok.injEq] at h2
      obtain ⟨rfl, rfl⟩ := h2
      exact .inr (.inl ⟨g, _, rfl, rfl, rfl⟩)
    · have holds : ∀ j u, xs[j]? = some u → w.cell? ((⟨g, 0, none⟩ : Addr).add j) = some u := hown.cells (g := g) rfl
      have hr := run_append_grow (P := Tryf.prog) w t ty e i z ht hi hz ⟨g, 0, none⟩ n cap xs hown.1 holds a m c news hl hnews (by omega) (by omega) (growslice_fits (by omega) hby)
      rw [hr] at h2
      simp only [Result.ok.injEq] at h2
      obtain ⟨rfl, rfl⟩ := h2
      exact .inr (.inr ⟨_, rfl, rfl⟩)

/-- append of bytes that lie somewhere. -/
theorem append_bytes (base : Nat) (w : World) (ty : TypeId) (v : Value) (n : Nat) (xs : List Value) (hown : w.ownsRow base 5 1 v n xs) (b o m c : Nat) (l : List UInt8) (hl : l.length = m) (hseg : Seg w b o l) (hn : n + m ≤ 1000000000) (hbase : base ≤ w.heap.size) :
    ∃ v' w', (Builtin.append_ #[36, 36] ty #[v, .slice (some ⟨b, o, none⟩) m c]).run Tryf.prog w = .ok v' w' ∧ AppPost base 5 1 v (n + m) (xs ++ bcells l) w v' w' := by
  refine append_any Tryf.underlying36 infoB rfl (by decide) (by decide) base w ty v n xs hown ⟨b, o, none⟩ m c (bcells l) (by rw [bcells_length]; omega) ?_ (bcells_one _) hn hbase
  intro j u hu
  obtain ⟨hj, -⟩ := List.getElem?_eq_some_iff.1 hu
  rw [bcells_length] at hj
  have e : (⟨b, o, none⟩ : Addr).add j = ⟨b, o + j, none⟩ := by unfold Addr.add; split <;> simp_all
  rw [e, hseg j hj, ← hu, bcells_get _ _ hj]

theorem append_int (base : Nat) (w : World) (ty : TypeId) (v : Value) (n : Nat) (xs : List Value) (hown : w.ownsRow base 3 1 v n xs) (b c : Nat) (x : Int) (hx : w.cell? ⟨b, 0, none⟩ = some (.int .i64 x)) (hn : n + 1 ≤ 1000000000) (hbase : base ≤ w.heap.size) :
    ∃ v' w', (Builtin.append_ #[26, 26] ty #[v, .slice (some ⟨b, 0, none⟩) 1 c]).run Tryf.prog w = .ok v' w' ∧ AppPost base 3 1 v (n + 1) (xs ++ [.int .i64 x]) w v' w' := by
  refine append_any Tryf.underlying26 infoI rfl (by decide) (by decide) base w ty v n xs hown ⟨b, 0, none⟩ 1 c [.int .i64 x] (by simp) ?_ (by simp; rfl) hn hbase
  intro j u hu
  match j, hu with
  | 0, hu =>
    simp at hu
    subst hu
    simpa [Addr.add] using hx

theorem append_pos (base : Nat) (w : World) (ty : TypeId) (v : Value) (n : Nat) (xs : List Value) (hown : w.ownsRow base 85 2 v n xs) (b c : Nat) (x y : Int) (hx : w.cell? ⟨b, 0, none⟩ = some (.int .i64 x)) (hy : w.cell? ⟨b, 1, none⟩ = some (.int .i64 y)) (hn : n + 1 ≤ 1000000000) (hbase : base ≤ w.heap.size) :
    ∃ v' w', (Builtin.append_ #[74, 74] ty #[v, .slice (some ⟨b, 0, none⟩) 1 c]).run Tryf.prog w = .ok v' w' ∧ AppPost base 85 2 v (n + 1) (xs ++ [.int .i64 x, .int .i64 y]) w v' w' := by
  refine append_any Tryf.underlying74 infoP rfl (by decide) (by decide) base w ty v n xs hown ⟨b, 0, none⟩ 1 c [.int .i64 x, .int .i64 y] (by simp) ?_ (by simp; exact ⟨rfl, rfl⟩) hn hbase
  intro j u hu
  match j, hu with
  | 0, hu =>
    simp at hu
    subst hu
    simpa [Addr.add] using hx
  | 1, hu =>
    simp at hu
    subst hu
    simpa [Addr.add] using hy

/-- A row that is owned, kept through a change elsewhere. -/
theorem ownsRow_only {S : Nat → Prop} {w w' : World} {base e size : Nat} {v : Value} {n : Nat} {xs : List Value} (h : w.ownsRow base e size v n xs) (ho : Only S w w') (hS : ∀ k, v.ownBlock = some k → ¬ S k) : w'.ownsRow base e size v n xs := by
  refine ⟨h.1, ?_⟩
  rcases h.2 with h2 | ⟨g, cap, cur, h1, h2, h3, h4⟩
  · exact .inl h2
  · refine .inr ⟨g, cap, cur, h1, h2, ?_, h4⟩
    have hlt : g < w.heap.size := (Array.getElem?_eq_some_iff.1 h3).1
    rw [ho.block g hlt (hS g (by rw [h1]; rfl))]
    exact h3
theorem ownsRow_base {w : World} {base base' e size : Nat} {v : Value} {n : Nat} {xs : List Value} (h : w.ownsRow base e size v n xs) (hb : base' ≤ base) : w.ownsRow base' e size v n xs := by
  refine ⟨h.1, ?_⟩
  rcases h.2 with h2 | ⟨g, cap, cur, h1, h2, h3, h4⟩
  · exact .inl h2
  · exact .inr ⟨g, cap, cur, h1, Nat.le_trans hb h2, h3, h4⟩
/-- The first none of an owned row. -/
theorem ownsRow_none {w : World} {base e size : Nat} {p : Addr} {n cap : Nat} {xs : List Value} (h : w.ownsRow base e size (.slice (some p) n cap) n xs) : w.ownsRow base e size (.slice (some p) 0 cap) 0 [] := by
  refine ⟨by simp, ?_⟩
  rcases h.2 with ⟨h2, -⟩ | ⟨g, cap', cur, h1, h2, h3, h4, h5, h6, h7⟩
  · cases h2
  · simp only [Value.slice.injEq, Option.some.injEq] at h1
    obtain ⟨rfl, -, rfl⟩ := h1
    exact .inr ⟨g, _, cur, by simp, h2, h3, Nat.zero_le _, h5, h6, by simp⟩
end Go.Proofs.Qxb6614395aFmt
