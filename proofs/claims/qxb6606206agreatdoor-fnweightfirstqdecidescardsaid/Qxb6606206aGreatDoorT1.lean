import Derived.Test.Qxb6606206aGreatDoorRows
import Derived.Test.Qxb6606206aGreatDoorW26
import Derived.PinnedBridge
import Derived.Lib.LaidU8
import Derived.Lib.LaidPrint
import Derived.Stop.LaidErr
import Derived.Shelf.Vars
import Derived.Deep.Strs
set_option linter.unusedSimpArgs false
set_option linter.unusedVariables false
namespace Go.Proofs.Qxb6606206aGreatDoor
open Go Go.RowKit Go.Lib Go.Shelf
set_option maxRecDepth 100000

section
variable {H : Type} {enc : TypeId × Value → H} {P : Program} {w : World} {base : Nat} {sp : Nat → Bool} {held : Bool} {fuel : Nat} {t : TypeId} {cs : List Value} {x : DataW H × List MemPlace}
theorem trod_float {k : FloatKind} (ht : P.underlying t = some (.float k)) (h : DataW.trod enc P w base sp held fuel t cs = some x) : ∃ n, cs = [.float k n] ∧ x = (.lit (.float k n), []) := by
  cases fuel with
  | zero => simp [DataW.trod] at h
  | succ n =>
    unfold DataW.trod at h
    rw [ht] at h
    split at h <;> simp_all
end

/-- A listed variable's cells, and how they read. -/
theorem reads_at {w : World} {n : String} {d : DataW Unit} (h : VarReads Tryz.prog w n d) (g : Nat) (t : TypeId) (hg : Tryz.prog.globalNamed n = some g) (ht : (Tryz.prog.globals[g]?).map (·.type) = some t) :
    ∃ (cs : Array Value) (fuel : Nat) (p : List MemPlace), (∀ i, w.cell? ⟨g, i, none⟩ = cs.toList[i]?) ∧ DataW.trod (fun _ => ()) Tryz.prog w 0 (fun _ => true) false fuel t cs.toList = some (d, p) := by
  obtain ⟨g', t', cs, fuel, p, hg', hty, hvar, hd⟩ := h
  obtain rfl := Option.some.inj (hg.symm.trans hg')
  obtain rfl := Option.some.inj (ht.symm.trans hty)
  exact ⟨cs, fuel, p, fun i => by rw [World.var?_cell hg hvar i, Array.getElem?_toList], hd⟩

theorem c1_46 : Tryz.prog.cellsOf 46 = 1 := by kernel_rfl
theorem c1_3 : Tryz.prog.cellsOf 3 = 1 := by kernel_rfl
theorem c1_9 : Tryz.prog.cellsOf 9 = 1 := by kernel_rfl
theorem c1_23 : Tryz.prog.cellsOf 23 = 1 := by kernel_rfl
theorem c1_49 : Tryz.prog.cellsOf 49 = 1 := by kernel_rfl
theorem c1_95 : Tryz.prog.cellsOf 95 = 1 := by kernel_rfl
theorem c2_145 : Tryz.prog.cellsOf 145 = 2 := by kernel_rfl
theorem c2_156 : Tryz.prog.cellsOf 156 = 2 := by kernel_rfl

theorem take1 {l : List Value} {n : Nat} {v : Value} (h : (l.drop n).take 1 = [v]) : l[n]? = some v := by
  have := congrArg (·[0]?) h
  simpa [List.getElem?_take, List.getElem?_drop] using this

/-- asciiFold. -/
theorem af_of {w : World} {n : String} (h : VarReads Tryz.prog w n Rows.laid_unicode_asciiFold) (hg : Tryz.prog.globalNamed n = some 0) : AF w := by
  obtain ⟨cs, fuel, p, hc, hd⟩ := reads_at h 0 47 hg (by kernel_rfl)
  unfold Rows.laid_unicode_asciiFold at hd
  refine ⟨?_, ?_⟩
  · obtain ⟨f', d, q, h1, h2⟩ := array_elem Tryz.underlying47 hd 113 (by omega)
    rw [c1_46] at h2
    obtain ⟨z, hz, hx, _⟩ := DataW.trod_int Tryz.underlying46 h2
    have e : d = .lit (.int .u16 81) := (Option.some.inj h1).symm
    have e2 := congrArg Prod.fst hx
    rw [e] at e2
    injection e2 with e2
    injection e2 with _ e2
    rw [hc, take1 hz, ← e2]
  · obtain ⟨f', d, q, h1, h2⟩ := array_elem Tryz.underlying47 hd 81 (by omega)
    rw [c1_46] at h2
    obtain ⟨z, hz, hx, _⟩ := DataW.trod_int Tryz.underlying46 h2
    have e : d = .lit (.int .u16 113) := (Option.some.inj h1).symm
    have e2 := congrArg Prod.fst hx
    rw [e] at e2
    injection e2 with e2
    injection e2 with _ e2
    rw [hc, take1 hz, ← e2]

theorem info_of {w : World} {n : String} (h : VarReads Tryz.prog w n Rows.laid_internal_strconv_float64info) (hg : Tryz.prog.globalNamed n = some 10) :
    w.cell? ⟨10, 0, none⟩ = some (.int .u64 52) ∧ w.cell? ⟨10, 1, none⟩ = some (.int .u64 11) ∧ w.cell? ⟨10, 2, none⟩ = some (.int .i64 (-1023)) := by
  obtain ⟨cs, fuel, p, hc, hd⟩ := reads_at h 10 101 hg (by kernel_rfl)
  obtain ⟨y0, y1, y2, m, hx, hl, h0, h1, h2⟩ := Go.Deep.trod_struct3 Tryz.underlying101 hd
  have e := congrArg Prod.fst hx
  unfold Rows.laid_internal_strconv_float64info at e
  simp only [DataW.agg.injEq, List.cons.injEq, and_true] at e
  obtain ⟨e0, e1, e2⟩ := e
  obtain ⟨z0, k0, x0, _⟩ := DataW.trod_int Tryz.underlying49 h0
  obtain ⟨z1, k1, x1, _⟩ := DataW.trod_int Tryz.underlying49 h1
  obtain ⟨z2, k2, x2, _⟩ := DataW.trod_int Tryz.underlying3 h2
  rw [c1_49] at k0 k1
  rw [c1_3] at k2
  rw [x0] at e0; rw [x1] at e1; rw [x2] at e2
  simp only [DataW.lit.injEq, Lit.int.injEq, true_and] at e0 e1 e2
  refine ⟨?_, ?_, ?_⟩
  · rw [hc, take1 k0, ← e0]
  · rw [hc, take1 k1, ← e1]
  · rw [hc, take1 k2, ← e2]

theorem opt_of {w : World} {n : String} (h : VarReads Tryz.prog w n Rows.laid_internal_strconv_optimize) (hg : Tryz.prog.globalNamed n = some 9) : w.cell? ⟨9, 0, none⟩ = some (.bool true) := by
  obtain ⟨cs, fuel, p, hc, hd⟩ := reads_at h 9 4 hg (by kernel_rfl)
  obtain ⟨b, hb, hx⟩ := DataW.trod_bool Tryz.underlying4 hd
  have e := congrArg Prod.fst hx
  unfold Rows.laid_internal_strconv_optimize at e
  simp only [DataW.lit.injEq, Lit.bool.injEq] at e
  rw [hc, hb, ← e]; rfl

theorem pow_of {w : World} {n : String} (h : VarReads Tryz.prog w n Rows.laid_internal_strconv_powtab) (hg : Tryz.prog.globalNamed n = some 12) :
    ∃ pb po pc, w.cell? ⟨12, 0, none⟩ = some (.slice (some ⟨pb, po, none⟩) 9 pc) ∧ ∀ i, i < 9 → w.cell? ⟨pb, po + i, none⟩ = some (.int .i64 (pw i)) := by
  have e : Rows.laid_internal_strconv_powtab = sliceData .i64 [1, 3, 6, 9, 13, 16, 19, 23, 26] := rfl
  rw [e] at h
  obtain ⟨R, o, c, h1, h2⟩ := tabSlice_of_reads (k := .i64) (g := 12) (t := 139) (e := 3) hg (by kernel_rfl) Tryz.underlying139 Tryz.underlying3 c1_3 (by decide) h
  refine ⟨R, o, c, h1, fun i hi => ?_⟩
  rw [h2 i hi]
  match i, hi with
  | 0, _ | 1, _ | 2, _ | 3, _ | 4, _ | 5, _ | 6, _ | 7, _ | 8, _ => rfl

theorem addr0 (a : Addr) : a.add 0 = a := by simp [Addr.add]
theorem f10_of {w : World} {n : String} (h : VarReads Tryz.prog w n Rows.laid_internal_strconv_float64pow10) (hg : Tryz.prog.globalNamed n = some 13) :
    ∃ fb fo fc, w.cell? ⟨13, 0, none⟩ = some (.slice (some ⟨fb, fo, none⟩) 23 fc) ∧ ∀ i, i < 23 → w.cell? ⟨fb, fo + i, none⟩ = some (.float .f64 (f10 i)) := by
  obtain ⟨cs, fuel, p, hc, hd⟩ := reads_at h 13 141 hg (by kernel_rfl)
  have ed : (Rows.laid_internal_strconv_float64pow10 : DataW Unit) = .slice ((List.range 23).map fun i => .lit (.float .f64 (f10 i))) [] := rfl
  rw [ed] at hd
  rcases DataW.trod_slice Tryz.underlying141 hd with ⟨_, hx⟩ | ⟨a, len, cap, el, rs, m, _, hcs, hx, _, hlc, _, hel, helem, _, _⟩
  · cases hx
  have e0 := congrArg Prod.fst hx
  simp only [DataW.slice.injEq] at e0
  obtain ⟨eE, _⟩ := e0
  have hlen : len = 23 := by
    have := congrArg List.length eE
    simp at this
    omega
  have hcell : ∀ i, i < 23 → w.cell? (a.add i) = some (.float .f64 (f10 i)) := fun i hi => by
    have h1 := helem i (by omega)
    rw [c1_23, Nat.mul_one] at h1
    obtain ⟨b, hb⟩ : ∃ b, el[i]? = some b := ⟨el[i]'(by omega), List.getElem?_eq_getElem (by omega)⟩
    rw [hb] at h1
    obtain ⟨ce, hce, hte⟩ := Option.bind_eq_some_iff.1 h1
    obtain ⟨z, hz, hbz⟩ := trod_float Tryz.underlying23 hte
    have hb1 : b.1 = .lit (.float .f64 (f10 i)) := by
      have := congrArg (·[i]?) eE
      simp [hb, hi] at this
      exact this.symm
    rw [hbz] at hb1
    simp only [DataW.lit.injEq, Lit.float.injEq, true_and] at hb1
    obtain ⟨_, _, hcc⟩ := World.cells?_some hce
    have := hcc 0 (by omega)
    rw [hz, addr0] at this
    rw [this, ← hb1]; rfl
  obtain ⟨R, o, sR⟩ := a
  obtain rfl : sR = none := by
    have h00 := hcell 0 (by omega)
    rw [addr0] at h00
    exact Go.Proofs.cell_spot h00
  refine ⟨R, o, cap, ?_, fun j hj => ?_⟩
  · rw [hc, hcs, hlen]; rfl
  · have := hcell j hj
    rwa [Addr.add_lit] at this

theorem len_cheats : Pinned.cheatRows.length = 61 := by kernel_rfl
theorem len_pow10 : Pinned.pow10Rows.length = 696 := by kernel_rfl
theorem p10_of {w : World} {n : String} (h : VarReads Tryz.prog w n Rows.laid_internal_strconv_pow10Tab) (hg : Tryz.prog.globalNamed n = some 14) : P10 w := by
  obtain ⟨cs, fuel, p, hc, hd⟩ := reads_at h 14 146 hg (by kernel_rfl)
  unfold Rows.laid_internal_strconv_pow10Tab Pinned.pow10Tab at hd
  refine ⟨fun i hi => ?_⟩
  obtain ⟨f', d, q, h1, h2⟩ := array_elem Tryz.underlying146 hd i hi
  rw [c2_145] at h2
  have hil : i < Pinned.pow10Rows.length := by rw [len_pow10]; exact hi
  rw [List.getElem?_map, List.getElem?_eq_getElem hil] at h1
  have hH : pH i = Pinned.pow10Rows[i].1 := by unfold pH; rw [List.getD_eq_getElem?_getD, List.getElem?_eq_getElem hil]; rfl
  have hL : pL i = Pinned.pow10Rows[i].2 := by unfold pL; rw [List.getD_eq_getElem?_getD, List.getElem?_eq_getElem hil]; rfl
  rw [hH, hL]
  generalize Pinned.pow10Rows[i] = r at h1
  have ed := (Option.some.inj h1).symm
  obtain ⟨y0, y1, m, hx, hl, k0, k1⟩ := Go.ChangeShapes.trod_struct2 Tryz.underlying145 h2
  have e := congrArg Prod.fst hx
  simp only [ed, DataW.agg.injEq, List.cons.injEq, and_true] at e
  obtain ⟨e0, e1⟩ := e
  obtain ⟨z0, j0, x0, _⟩ := DataW.trod_int Tryz.underlying95 k0
  obtain ⟨z1, j1, x1, _⟩ := DataW.trod_int Tryz.underlying95 k1
  rw [c1_95] at j0 j1
  rw [x0] at e0; rw [x1] at e1
  simp only [DataW.lit.injEq, Lit.int.injEq, true_and] at e0 e1
  have t0 := take1 j0
  have t1 := take1 j1
  rw [List.getElem?_take, if_pos (by decide), List.getElem?_drop] at t0 t1
  exact ⟨by rw [hc, ← e0] at *; exact t0, by rw [hc, ← e1] at *; exact t1⟩

theorem lc_of {w : World} {n : String} (h : VarReads Tryz.prog w n Rows.laid_internal_strconv_leftcheats) (hg : Tryz.prog.globalNamed n = some 15) : ∃ blk o cap, LCT w blk o cap := by
  obtain ⟨cs, fuel, p, hc, hd⟩ := reads_at h 15 157 hg (by kernel_rfl)
  unfold Rows.laid_internal_strconv_leftcheats Pinned.leftcheats at hd
  rcases DataW.trod_slice Tryz.underlying157 hd with ⟨_, hx⟩ | ⟨a, len, cap, el, rs, m, _, hcs, hx, _, hlc, _, hel, helem, _, _⟩
  · cases hx
  have e0 := congrArg Prod.fst hx
  simp only [DataW.slice.injEq] at e0
  obtain ⟨eE, _⟩ := e0
  have hlen : len = 61 := by
    have := congrArg List.length eE
    rw [List.length_map, List.length_map, len_cheats] at this
    omega
  have hcell : ∀ i, i < 61 → w.cell? (a.add (i * 2)) = some (.int .i64 (chD i)) ∧ w.cell? ((a.add (i * 2)).add 1) = some (.string (str (chC i))) := fun i hi => by
    have h1 := helem i (by omega)
    rw [c2_156] at h1
    obtain ⟨b, hb⟩ : ∃ b, el[i]? = some b := ⟨el[i]'(by omega), List.getElem?_eq_getElem (by omega)⟩
    rw [hb] at h1
    obtain ⟨ce, hce, hte⟩ := Option.bind_eq_some_iff.1 h1
    have hil : i < Pinned.cheatRows.length := by rw [len_cheats]; exact hi
    have hD : chD i = Pinned.cheatRows[i].1 := by unfold chD; rw [List.getD_eq_getElem?_getD, List.getElem?_eq_getElem hil]; rfl
    have hC : chC i = Pinned.cheatRows[i].2 := by unfold chC; rw [List.getD_eq_getElem?_getD, List.getElem?_eq_getElem hil]; rfl
    have hb1 := congrArg (·[i]?) eE
    simp only [List.getElem?_map, hb, List.getElem?_eq_getElem hil, Option.map_some, Option.some.injEq] at hb1
    rw [hD, hC]
    generalize Pinned.cheatRows[i] = r at hb1
    obtain ⟨y0, y1, m', hx', hl, k0, k1⟩ := Go.ChangeShapes.trod_struct2 Tryz.underlying156 hte
    rw [hx'] at hb1
    simp only [DataW.agg.injEq, List.cons.injEq, and_true] at hb1
    obtain ⟨g0, g1⟩ := hb1
    obtain ⟨z0, j0, x0, _⟩ := DataW.trod_int Tryz.underlying3 k0
    obtain ⟨z1, j1, x1, _⟩ := DataW.trod_string Tryz.underlying9 k1
    rw [c1_3] at j0
    rw [c1_9] at j1
    rw [x0] at g0; rw [x1] at g1
    simp only [DataW.lit.injEq, Lit.int.injEq, Lit.string.injEq, true_and] at g0 g1
    have t0 := take1 j0
    have t1 := take1 j1
    obtain ⟨_, _, hcc⟩ := World.cells?_some hce
    have c0 := hcc 0 (by omega)
    have c1 := hcc 1 (by omega)
    rw [addr0] at c0
    refine ⟨?_, ?_⟩
    · rw [c0, t0, g0]
    · rw [c1, t1, g1]; rfl
  obtain ⟨R, o, sR⟩ := a
  obtain rfl : sR = none := by
    have h00 := (hcell 0 (by omega)).1
    rw [Nat.zero_mul, addr0] at h00
    exact Go.Proofs.cell_spot h00
  refine ⟨R, o, cap, ⟨fun k _ hk => ⟨?_, ?_, ?_⟩⟩⟩
  · rw [hc, hcs, hlen]; rfl
  · have := (hcell k (by omega)).1
    rwa [Addr.add_lit] at this
  · have := (hcell k (by omega)).2
    rwa [Addr.add_lit, Addr.add_lit] at this

theorem err_of {w : World} {n nm : String} {d : DataW Unit} {g : Nat} (h : VarReads Tryz.prog w n (.iface nm d)) (hg : Tryz.prog.globalNamed n = some g) (ht : (Tryz.prog.globals[g]?).map (·.type) = some 35) : ∃ t x, w.cell? ⟨g, 0, none⟩ = some (.iface t x) := by
  obtain ⟨cs, fuel, p, hc, hd⟩ := reads_at h g 35 hg ht
  obtain ⟨f1, u, v, hcs, _⟩ := iface_of_trod Tryz.underlying35 hd
  exact ⟨u, v, by rw [hc, hcs]; rfl⟩

theorem begin10 : ((begin Tryz.prog (fun _ _ => 0) default).world.heap[10]?).bind Obj.row? = some (#[.int .u64 0, .int .u64 0, .int .i64 0], 101) := by kernel_rfl
theorem begin8 : ((begin Tryz.prog (fun _ _ => 0) default).world.heap[8]?).bind Obj.row? = some (#[.int .u64 0, .int .u64 0, .int .i64 0], 101) := by kernel_rfl
theorem begin3 : ((begin Tryz.prog (fun _ _ => 0) default).world.heap[3]?).bind Obj.row? = some (#[.int .i64 0], 3) := by kernel_rfl
theorem nglob : 18 < Tryz.prog.globals.size := of_decide_eq_true (by kernel_rfl)

/-- What the row's condition and the world's shape give the walks. -/
theorem wt_of {W : World} (h : laidMet Tryz.prog Rows.fnWeightFirstQDecidesRow.laid W) (hs : W.ShapedOpen Tryz.prog) : WT W := by
  have hn := nglob
  have h10 := p10_of (laidMet.reads h (.tail _ (.tail _ (.tail _ (.tail _ (.tail _ (.tail _ (.tail _ (.tail _ (.tail _ (.tail _ (.tail _ (.tail _ (.tail _ (.tail _ (.tail _ (.head _))))))))))))))))) (by kernel_rfl)
  obtain ⟨i0, i1, i2⟩ := info_of (laidMet.reads h (.tail _ (.tail _ (.tail _ (.head _))))) (by kernel_rfl)
  have hopt := opt_of (laidMet.reads h (.tail _ (.tail _ (.tail _ (.tail _ (.head _)))))) (by kernel_rfl)
  obtain ⟨pb, po, pc, hp, hpr⟩ := pow_of (laidMet.reads h (.tail _ (.tail _ (.tail _ (.tail _ (.tail _ (.head _))))))) (by kernel_rfl)
  obtain ⟨fb, fo, fc, hf, hfr⟩ := f10_of (laidMet.reads h (.tail _ (.tail _ (.tail _ (.tail _ (.tail _ (.tail _ (.head _)))))))) (by kernel_rfl)
  obtain ⟨blk, o, cap, hlc⟩ := lc_of (laidMet.reads h (.tail _ (.tail _ (.tail _ (.tail _ (.tail _ (.tail _ (.tail _ (.tail _ (.tail _ (.tail _ (.tail _ (.tail _ (.tail _ (.tail _ (.head _)))))))))))))))) (by kernel_rfl)
  have haf := af_of (laidMet.reads h (.tail _ (.tail _ (.tail _ (.tail _ (.tail _ (.tail _ (.tail _ (.tail _ (.tail _ (.tail _ (.tail _ (.tail _ (.head _)))))))))))))) (by kernel_rfl)
  have hr := err_of (g := 7) (laidMet.reads h (.tail _ (.tail _ (.tail _ (.tail _ (.tail _ (.tail _ (.tail _ (.tail _ (.tail _ (.tail _ (.head _)))))))))))) (by kernel_rfl) (by kernel_rfl)
  have hsy := err_of (g := 6) (laidMet.reads h (.tail _ (.tail _ (.tail _ (.tail _ (.tail _ (.tail _ (.tail _ (.tail _ (.tail _ (.tail _ (.tail _ (.head _))))))))))))) (by kernel_rfl) (by kernel_rfl)
  obtain ⟨c10, hc10, _, _⟩ := hs.1 10 _ _ (by omega) begin10
  obtain ⟨c8, hc8, _, _⟩ := hs.1 8 _ _ (by omega) begin8
  have hm := cell_of_shapedOpen_int hs (by omega) begin3 rfl (by kernel_rfl) (by kernel_rfl) Tryz.underlying3
  have row1 := hlc.row 1 (by omega) (by omega)
  exact ⟨⟨⟨fb, fo, fc, pb, po, pc, blk, o, cap, ⟨h10, ⟨i0, hf, hfr⟩, ⟨i0, i1, i2, hp, hpr, hlc, World.block_lt_of_cell? W _ (hpr 0 (by omega)), World.block_lt_of_cell? W _ row1.cd, World.block_lt_of_cell? W _ row1.c15⟩, ⟨⟨c10, 101, hc10⟩, c8, 101, hc8⟩, hopt⟩⟩, ⟨hsy, hr⟩⟩, haf, hm⟩
end Go.Proofs.Qxb6606206aGreatDoor
