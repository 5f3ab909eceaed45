import Derived.Test.Qxb6614395aFmtW29
import Derived.Test.Qxb6614395aFmtL6
set_option linter.unusedSimpArgs false
set_option linter.unusedVariables false
namespace Go.Proofs.Qxb6614395aFmt
open Go Go.RowKit Go.Deep Go.Extern.Stop Go.Stop Go.Extern
attribute [local go_sem] str_size str_get str_extract str_toList str_append

theorem infoSl : (Tryf.prog.info? 22).map (fun i => (i.zero, i.size, i.bytes)) = some (some (.slice none 0 0), 1, 24) := by kernel_rfl
theorem append_any24 {t e size bytes : Nat} {z : Value} (ht : Tryf.prog.underlying t = some (.slice e)) (hinfo : (Tryf.prog.info? e).map (fun i => (i.zero, i.size, i.bytes)) = some (some z, size, bytes)) (hzs : z.cells.size = size) (hsz : 0 < size) (hb16 : bytes ≤ 24)
    (base : Nat) (w : World) (ty : TypeId) (v : Value) (n : Nat) (xs : List Value) (hown : w.ownsRow base e size v n xs) (a : Addr) (m c : Nat) (news : List Value) (hl : news.length = m * size)
    (hnews : ∀ j u, news[j]? = some u → w.cell? (a.add j) = some u) (h1 : ∀ u ∈ news, u.oneCell' = true) (hn : n + m ≤ 1000000000) (hbase : base ≤ w.heap.size) :
    ∃ v' w', (Builtin.append_ #[t, t] ty #[v, .slice (some a) m c]).run Tryf.prog w = .ok v' w' ∧ AppPost base e size v (n + m) (xs ++ news) w v' w' := by
  obtain ⟨i, hi, hzz⟩ := Option.map_eq_some_iff.1 hinfo
  simp only [Prod.mk.injEq] at hzz
  obtain ⟨hz, hs, hb⟩ := hzz
  have hby : (n + m) * bytes ≤ 140737488355328 := by
    have : (n + m) * bytes ≤ 1000000000 * 24 := Nat.mul_le_mul hn hb16
    omega
  obtain ⟨v', w', h2, h3, h4, h6, h5⟩ := run_append_own_at (P := Tryf.prog) w base t ty e i z size bytes ht hi hz hs hb hzs hsz v n xs hown a m c news hl hnews h1 (by unfold maxLen; omega) hby hbase
  refine ⟨v', w', h2, h3, ?_⟩
  subst hs
  subst hb
  rcases hown.2 with ⟨rfl, rfl⟩ | ⟨g, cap, cur, rfl, hbg, hg, hnc, hcm, hcs, htake⟩
  · have hx : xs = [] := List.eq_nil_of_length_eq_zero (by simpa using hown.1)
    subst hx
    by_cases hm : m = 0
    · subst hm
      have hr : (Builtin.append_ #[t, t] ty #[.slice none 0 0, .slice (some a) 0 c]).run Tryf.prog w = .ok (.slice none 0 0) w := by
        simp [Builtin.append_, run_underlying ht, sizeOf, typeInfo, hi, Builtin.lenOf, Builtin.firstCells, loadCells, loadCellsFrom]
      rw [hr] at h2
      simp only [Result.ok.injEq] at h2
      obtain ⟨rfl, rfl⟩ := h2
      exact .inl ⟨rfl, rfl⟩
    · have hr := run_append_nil (P := Tryf.prog) w t ty e i z ht hi hz a m c news hl hnews (by omega) (by omega) (by simp only [Nat.zero_add] at hby; omega)
      rw [hr] at h2
      simp only [Result.ok.injEq] at h2
      obtain ⟨rfl, rfl⟩ := h2
      exact .inr (.inr ⟨_, rfl, rfl⟩)
  · by_cases hroom : n + m ≤ cap
    · have hfit : n * i.size + news.length ≤ cur.size := by rw [hl, hcs, ← Nat.add_mul]; exact Nat.mul_le_mul_right _ hroom
      have hr := run_append_room (P := Tryf.prog) w t ty e i ht hi g n cap cur hg a m c news hl hnews h1 hroom hfit
      rw [hr] at h2
      simp only [Result.ok.injEq] at h2
      obtain ⟨rfl, rfl⟩ := h2
      exact .inr (.inl ⟨g, _, rfl, rfl, rfl⟩)
    · have holds : ∀ j u, xs[j]? = some u → w.cell? ((⟨g, 0, none⟩ : Addr).add j) = some u := hown.cells (g := g) rfl
      have hr := run_append_grow (P := Tryf.prog) w t ty e i z ht hi hz ⟨g, 0, none⟩ n cap xs hown.1 holds a m c news hl hnews (by omega) (by omega) (growslice_fits (by omega) hby)
      rw [hr] at h2
      simp only [Result.ok.injEq] at h2
      obtain ⟨rfl, rfl⟩ := h2
      exact .inr (.inr ⟨_, rfl, rfl⟩)
theorem append_row (base : Nat) (w : World) (ty : TypeId) (v : Value) (n : Nat) (xs : List Value) (hown : w.ownsRow base 22 1 v n xs) (b c : Nat) (p : Option Addr) (m cp : Nat) (hx : w.cell? ⟨b, 0, none⟩ = some (.slice p m cp)) (hn : n + 1 ≤ 1000000000) (hbase : base ≤ w.heap.size) :
    ∃ v' w', (Builtin.append_ #[25, 25] ty #[v, .slice (some ⟨b, 0, none⟩) 1 c]).run Tryf.prog w = .ok v' w' ∧ AppPost base 22 1 v (n + 1) (xs ++ [.slice p m cp]) w v' w' := by
  refine append_any24 Tryf.underlying25 infoSl rfl (by decide) (by decide) base w ty v n xs hown ⟨b, 0, none⟩ 1 c [.slice p m cp] (by simp) ?_ (by simp; rfl) hn hbase
  intro j u hu
  match j, hu with
  | 0, hu =>
    simp at hu
    subst hu
    simpa [Addr.add] using hx

/-- One row's fields in memory. -/
def RowVal (w : World) (base : Nat) (v : Value) (r : List (List UInt8)) : Prop := ∃ b cap, v = .slice (some ⟨b, 0, none⟩) r.length cap ∧ w.ownsRow base 9 1 (.slice (some ⟨b, 0, none⟩) r.length cap) r.length (strC r)
abbrev Recs := List (List (List UInt8) × Nat)
/-- What the model has gathered. -/
structure ModelAt (w : World) (base : Nat) (v1 v2 : Value) (acc : Recs) : Prop where
  rows : ∃ vs, w.ownsRow base 22 1 v1 acc.length vs ∧ ∀ i (h : i < acc.length), ∃ v, vs[i]? = some v ∧ RowVal w base v acc[i].1
  lines : w.ownsRow base 3 1 v2 acc.length (acc.map fun r => .int .i64 (r.2 : Int))
theorem ModelAt.only {S : Nat → Prop} {w w' : World} {base : Nat} {v1 v2 : Value} {acc : Recs} (h : ModelAt w base v1 v2 acc) (ho : Only S w w') (hS : ∀ k, base ≤ k → k < w.heap.size → ¬ S k) : ModelAt w' base v1 v2 acc := by
  obtain ⟨vs, h1, h2⟩ := h.rows
  have key : ∀ {e size : Nat} {v : Value} {n : Nat} {xs : List Value}, w.ownsRow base e size v n xs → w'.ownsRow base e size v n xs := fun h => ownsRow_only h ho (fun k hk => hS k (h.lt k hk).1 (h.lt k hk).2)
  refine ⟨⟨vs, key h1, fun i hi => ?_⟩, key h.lines⟩
  obtain ⟨v, hv, b, cap, hb, hr⟩ := h2 i hi
  exact ⟨v, hv, b, cap, hb, key hr⟩
theorem ModelAt.nil (w : World) (base : Nat) : ModelAt w base (.slice none 0 0) (.slice none 0 0) [] := ⟨⟨[], World.ownsRow_nil _ _ _ _, fun i h => by simp at h⟩, World.ownsRow_nil _ _ _ _⟩
theorem shape_of {w : World} {base e size n : Nat} {v : Value} {xs : List Value} (h : w.ownsRow base e size v n xs) : (v = .slice none 0 0) ∨ ∃ b cap, v = .slice (some ⟨b, 0, none⟩) n cap := by
  rcases h.2 with ⟨h1, -⟩ | ⟨b, cap, cur, h1, -⟩
  · exact .inl h1
  · exact .inr ⟨b, cap, h1⟩

/-- One record more: both appends. -/
theorem ModelAt.add {w wr : World} {v1 v2 : Value} {acc : Recs} {b cap : Nat} {r : List (List UInt8)} (no : Nat) (ho : Only (fun _ => False) w wr) (h : ModelAt wr w.heap.size v1 v2 acc) (hr : wr.ownsRow w.heap.size 9 1 (.slice (some ⟨b, 0, none⟩) r.length cap) r.length (strC r)) (hn : acc.length + 1 ≤ 1000000000) :
    ∃ b1 c1 w1, (Builtin.append_ #[25, 25] 25 #[v1, .slice (some ⟨wr.heap.size, 0, none⟩) 1 1]).run Tryf.prog (wr.alloc (.cells #[.slice (some ⟨b, 0, none⟩) r.length cap] 22)) = .ok (.slice (some ⟨b1, 0, none⟩) (acc.length + 1) c1) w1 ∧
      ∃ b2 c2 w2, (Builtin.append_ #[26, 26] 26 #[v2, .slice (some ⟨w1.heap.size, 0, none⟩) 1 1]).run Tryf.prog (w1.alloc (.cells #[.int .i64 (no : Int)] 3)) = .ok (.slice (some ⟨b2, 0, none⟩) (acc.length + 1) c2) w2 ∧
        ModelAt w2 w.heap.size (.slice (some ⟨b1, 0, none⟩) (acc.length + 1) c1) (.slice (some ⟨b2, 0, none⟩) (acc.length + 1) c2) (acc ++ [(r, no)]) ∧ Only (fun _ => False) w w2 := by
  obtain ⟨vs, hv1, hvs⟩ := h.rows
  have hsz := ho.size
  have o1 : Only (fun _ => False) wr (wr.alloc (.cells #[.slice (some ⟨b, 0, none⟩) r.length cap] 22)) := (Only.refl _ wr).alloc _
  have s1 : SAt wr.heap.size 22 [.slice (some ⟨b, 0, none⟩) r.length cap] (wr.alloc (.cells #[.slice (some ⟨b, 0, none⟩) r.length cap] 22)) := SAt.new wr _ _
  obtain ⟨u1, w1, r1, a1, g1⟩ := append_row w.heap.size _ 25 v1 acc.length vs (ownsRow_only hv1 o1 (fun _ _ h => h)) wr.heap.size 1 _ _ _ (s1.cell (i := 0) rfl) hn (by rw [nblk_alloc]; omega)
  obtain ⟨b1, c1, rfl, -, -⟩ := a1.form (by omega)
  have og1 : Only (fun k => v1.ownBlock = some k) wr w1 := g1.only (o1.mono (fun _ _ h => h.elim)) (fun k hk => .inl hk)
  have oW1 : Only (fun _ => False) w w1 := ho.trans og1 (fun k hk h => by have := (hv1.lt k h).1; omega)
  refine ⟨b1, c1, w1, r1, ?_⟩
  have o2 : Only (fun _ => False) w1 (w1.alloc (.cells #[.int .i64 (no : Int)] 3)) := (Only.refl _ w1).alloc _
  have s2 : SAt w1.heap.size 3 [.int .i64 (no : Int)] (w1.alloc (.cells #[.int .i64 (no : Int)] 3)) := SAt.new w1 _ _
  have hl1 : w1.ownsRow w.heap.size 3 1 v2 acc.length (acc.map fun r => .int .i64 (r.2 : Int)) := ownsRow_only h.lines og1 (apart_of h.lines hv1 (by decide))
  obtain ⟨u2, w2, r2, a2, g2⟩ := append_int w.heap.size _ 26 v2 acc.length _ (ownsRow_only hl1 o2 (fun _ _ h => h)) w1.heap.size 1 _ (s2.cell (i := 0) rfl) hn (by rw [nblk_alloc]; have := oW1.size; omega)
  obtain ⟨b2, c2, rfl, -, -⟩ := a2.form (by omega)
  have og2 : Only (fun k => v2.ownBlock = some k) w1 w2 := g2.only (o2.mono (fun _ _ h => h.elim)) (fun k hk => .inl hk)
  have oW2 : Only (fun _ => False) w w2 := oW1.trans og2 (fun k hk h => by have := (hl1.lt k h).1; omega)
  refine ⟨b2, c2, w2, r2, ⟨⟨vs ++ [.slice (some ⟨b, 0, none⟩) r.length cap], ?_, ?_⟩, ?_⟩, oW2⟩
  · rw [List.length_append]
    exact ownsRow_only a1 og2 (fun k hk hk' => apart_of a1 hl1 (by decide) k hk hk')
  · have move : ∀ {v : Value} {r : List (List UInt8)}, RowVal wr w.heap.size v r → RowVal w2 w.heap.size v r := by
      rintro v r ⟨b, cap, h1, h2⟩
      have h3 := ownsRow_only h2 og1 (apart_of h2 hv1 (by decide))
      exact ⟨b, cap, h1, ownsRow_only h3 og2 (apart_of h3 hl1 (by decide))⟩
    have hvl : vs.length = acc.length := by have := hv1.1; omega
    intro i hi
    rw [List.length_append] at hi
    by_cases hlt : i < acc.length
    · obtain ⟨v, hv, hrv⟩ := hvs i hlt
      refine ⟨v, ?_, ?_⟩
      · rw [List.getElem?_append_left (by omega)]; exact hv
      · rw [List.getElem_append_left hlt]; exact move hrv
    · have hi' : i = acc.length := by simp at hi; omega
      subst hi'
      refine ⟨.slice (some ⟨b, 0, none⟩) r.length cap, ?_, ?_⟩
      · rw [List.getElem?_append_right (by omega), hvl]; simp
      · rw [List.getElem_append_right (by omega)]
        simp only [Nat.sub_self, List.getElem_cons_zero]
        exact move ⟨b, cap, rfl, hr⟩
  · rw [List.length_append, List.map_append]
    exact a2
end Go.Proofs.Qxb6614395aFmt
