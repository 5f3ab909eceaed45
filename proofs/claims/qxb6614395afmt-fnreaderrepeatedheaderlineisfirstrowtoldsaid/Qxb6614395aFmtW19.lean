import Derived.Test.Qxb6614395aFmtW17
set_option linter.unusedSimpArgs false
set_option linter.unusedVariables false
namespace Go.Proofs.Qxb6614395aFmt
open Go Go.RowKit Go.Deep Go.Extern.Stop Go.Stop Go.Extern

theorem strOfNums_bytes (l : List UInt8) : strOfNums (l.map fun c => (c.toNat : Int)) = str l := by
  apply ByteArray.ext
  simp only [strOfNums, str]
  congr 1
  rw [List.map_map]
  conv => rhs; rw [← List.map_id l]
  congr 1
  funext c
  simp

/-- string(buf). -/
theorem rbuf_string {w : World} {base : Nat} {v : Value} {bytes : List UInt8} (h : w.ownsRow base 5 1 v bytes.length (bcells bytes)) : (convert 36 9 v).run Tryf.prog w = .ok (.string (str bytes)) w := by
  have h0 := h
  rcases h.2 with ⟨rfl, h2⟩ | ⟨b, cap, cur, rfl, -⟩
  · have : bytes = [] := List.eq_nil_of_length_eq_zero h2
    subst this
    exact run_convert_bytes_nil w 36 5 Tryf.underlying36 Tryf.underlying5 0 0 9 Tryf.underlying9
  · have := run_convert_bytes_arg w 36 5 Tryf.underlying36 Tryf.underlying5 b 0 bytes.length cap (bytes.map fun c => (c.toNat : Int)) (by simp) (fun i hi => by
      rw [Nat.zero_add, h0.cellAt i (by omega), bcells_get _ _ hi, List.getD_eq_getElem?_getD]
      simp [hi]) 9 Tryf.underlying9
    rw [strOfNums_bytes] at this
    exact this

/-- The fields as cells. -/
def strC (flds : List (List UInt8)) : List Value := flds.map fun f => .string (str f)

/-- The first k of a row that has room. -/
theorem own_first {w : World} {base e n : Nat} {b cap k : Nat} {xs : List Value} (h : w.ownsRow base e 1 (.slice (some ⟨b, 0, none⟩) n cap) n xs) (hk : k ≤ cap) : ∃ ys, w.ownsRow base e 1 (.slice (some ⟨b, 0, none⟩) k cap) k ys := by
  rcases h.2 with ⟨h1, -⟩ | ⟨b', cap', cur, h1, h2, h3, h4, h5, h6, h7⟩
  · cases h1
  · simp only [Value.slice.injEq, Option.some.injEq, Addr.mk.injEq, and_true, true_and] at h1
    obtain ⟨rfl, rfl⟩ := h1
    refine ⟨cur.toList.take (k * 1), ?_, .inr ⟨b, cap, cur, rfl, h2, h3, hk, h5, h6, rfl⟩⟩
    rw [List.length_take, Array.length_toList, h6]
    omega

/-- make([]string, k). -/
theorem make_strs (w : World) (k : Nat) (hk : k ≤ 1000000000) : (Instr.makeSlice 22 (.int .i64 (k : Int)) (.int .i64 (k : Int))).run Tryf.prog w = .ok (.slice (some ⟨w.heap.size, 0, none⟩) k k) (w.alloc (.cells (madeCells #[.string ⟨#[]⟩] k) 9)) :=
  run_make_row' 22 9 (.string ⟨#[]⟩) 16 Tryf.underlying22 infoS rfl .i64 .i64 k (by omega) (by omega) w
theorem made_owns {w : World} {base k : Nat} (hb : base ≤ w.heap.size) (hk : k ≤ 1000000000) : ∃ ys, (w.alloc (.cells (madeCells #[.string ⟨#[]⟩] k) 9)).ownsRow base 9 1 (.slice (some ⟨w.heap.size, 0, none⟩) k k) k ys := by
  have hsz : (madeCells #[Value.string ⟨#[]⟩] k).size = k := size_madeCells _ _
  refine ⟨(madeCells #[Value.string ⟨#[]⟩] k).toList.take (k * 1), ?_, .inr ⟨w.heap.size, k, _, rfl, hb, heap_alloc_new w _, Nat.le_refl _, by unfold maxLen; omega, by rw [hsz]; omega, rfl⟩⟩
  rw [List.length_take, Array.length_toList, hsz]
  omega
/-- The row of the last record written over. -/
theorem Rows5.lastRow {g bd k cd : Nat} {c : CV} {bytes : List UInt8} {ixs ps ys : List Value} {w w' : World} (h : Rows5 g c bytes ixs ps w) (ho : Only (fun j => j = bd) w w') (hd : w.ownsRow (g + 6) 9 1 (.slice (some ⟨bd, 0, none⟩) k cd) k ys) (hl : ∃ n xs, w'.ownsRow (g + 6) 9 1 c.last n xs) : Rows5 g c bytes ixs ps w' := by
  obtain ⟨n1, x1, h1⟩ := h.raw
  obtain ⟨n2, h2⟩ := h.pos
  have hb := (hd.lt bd rfl).1
  have key : ∀ {e size n : Nat} {v : Value} {xs : List Value}, w.ownsRow (g + 6) e size v n xs → e ≠ 9 → ∀ j, v.ownBlock = some j → ¬ (j = bd) := by
    intro e size n v xs hv he j hj hjb
    subst hjb
    exact apart_of hv hd he j hj rfl
  exact ⟨ho.sat h.csv (by omega), ⟨n1, x1, ownsRow_only h1 ho (key h1 (by decide))⟩, ownsRow_only h.rbuf ho (key h.rbuf (by decide)), ownsRow_only h.idx ho (key h.idx (by decide)), ⟨n2, ownsRow_only h2 ho (key h2 (by decide))⟩, hl, h.apart, Nat.le_trans h.size ho.size⟩
/-- The old last record's row lives on in the row that has been written over. -/
theorem last_lives {w w1 w2 : World} {base nL k cd bd : Nat} {v : Value} {xL ys zs : List Value} (h : w.ownsRow base 9 1 v nL xL) (ho : Only (fun _ => False) w w1) (hd : w1.ownsRow base 9 1 (.slice (some ⟨bd, 0, none⟩) k cd) k ys) (hb : Only (fun j => j = bd) w1 w2) (hz : w2.ownsRow base 9 1 (.slice (some ⟨bd, 0, none⟩) k cd) k zs) (hor : v.ownBlock = some bd ∨ w.heap.size ≤ bd) :
    ∃ n xs, w2.ownsRow base 9 1 v n xs := by
  rcases hor with hor | hor
  · rcases h.2 with ⟨h1, -⟩ | ⟨b, cp, cur, h1, h2, h3, h4, h5, h6, h7⟩
    · rw [h1] at hor; cases hor
    · rw [h1] at hor
      simp only [Value.ownBlock, Option.some.injEq] at hor
      subst hor
      rcases hd.2 with ⟨h1', -⟩ | ⟨b', cp', cur', h1', h2', h3', h4', h5', h6', h7'⟩
      · cases h1'
      · simp only [Value.slice.injEq, Option.some.injEq, Addr.mk.injEq, and_true, true_and] at h1'
        obtain ⟨rfl, rfl⟩ := h1'
        rw [ho.block b (Array.getElem?_eq_some_iff.1 h3).1 (fun h => h), h3] at h3'
        simp only [Option.some.injEq, Obj.cells.injEq] at h3'
        have hc : cp = cd := by rw [h3'.1] at h6; omega
        subst hc
        obtain ⟨ys', hys'⟩ := own_first hz (k := nL) h4
        rw [h1]
        exact ⟨nL, ys', hys'⟩
  · refine ⟨nL, xL, ownsRow_only (ownsRow_only h ho (fun _ _ h => h)) hb (fun j hj hjb => ?_)⟩
    have := (h.lt j hj).2
    omega
theorem flat_take (flds : List (List UInt8)) (i : Nat) (h : i < flds.length) : (flds.take (i + 1)).flatten = (flds.take i).flatten ++ flds[i] := by
  have e : flds.take (i + 1) = flds.take i ++ [flds[i]] := by rw [List.take_add_one, List.getElem?_eq_getElem h]; rfl
  rw [e, List.flatten_append]
  simp
theorem flat_le (flds : List (List UInt8)) (i : Nat) : (flds.take i).flatten.length ≤ flds.flatten.length := by
  have h : flds.flatten = (flds.take i).flatten ++ (flds.drop i).flatten := by rw [← List.flatten_append, List.take_append_drop]
  rw [h, List.length_append]
  omega
/-- The i-th field out of the record's bytes. -/
theorem flat_field (flds : List (List UInt8)) (i : Nat) (h : i < flds.length) : (flds.flatten.take (flds.take (i + 1)).flatten.length).drop (flds.take i).flatten.length = flds[i] := by
  have h1 : flds.flatten = (flds.take (i + 1)).flatten ++ (flds.drop (i + 1)).flatten := by rw [← List.flatten_append, List.take_append_drop]
  rw [h1, List.take_append_of_le_length (Nat.le_refl _), List.take_of_length_le (Nat.le_refl _), flat_take flds i h, List.drop_append_of_le_length (Nat.le_refl _), List.drop_eq_nil_of_le (Nat.le_refl _), List.nil_append]
theorem ixsOf_get (flds : List (List UInt8)) (i : Nat) (h : i < flds.length) : (ixsOf flds)[i]? = some (.int .i64 (((flds.take (i + 1)).flatten.length : Nat) : Int)) := by
  unfold ixsOf
  simp [h]
theorem strC_set (flds : List (List UInt8)) (ys : List Value) (i : Nat) (h : i < flds.length) (hy : ys.length = flds.length) : (strC (flds.take i) ++ ys.drop i).set i (.string (str flds[i])) = strC (flds.take (i + 1)) ++ ys.drop (i + 1) := by
  have hl : (strC (flds.take i)).length = i := by simp [strC]; omega
  rw [List.set_append_right _ _ (by omega), hl, Nat.sub_self, List.drop_eq_getElem_cons (by omega), List.set_cons_zero]
  have e : flds.take (i + 1) = flds.take i ++ [flds[i]] := by rw [List.take_add_one, List.getElem?_eq_getElem h]; rfl
  rw [e]
  unfold strC
  rw [List.map_append, List.append_assoc]
  rfl
end Go.Proofs.Qxb6614395aFmt
