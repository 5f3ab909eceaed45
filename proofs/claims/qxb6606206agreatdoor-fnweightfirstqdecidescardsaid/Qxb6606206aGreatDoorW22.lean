import Derived.Test.Qxb6606206aGreatDoorW21
set_option linter.unusedSimpArgs false
set_option linter.unusedVariables false
namespace Go.Proofs.Qxb6606206aGreatDoor
open Go Go.RowKit
attribute [local go_sem] frombits_run str_size str_get str_extract str_toList str_append

theorem TB.below {w w' : World} {fb fo fc pb po pc blk o cap : Nat} (h : TB w fb fo fc pb po pc blk o cap) (hb : Below w.heap.size w w') : TB w' fb fo fc pb po pc blk o cap := by
  have h15 := h.ft.b3
  have hfb := World.block_lt_of_cell? w _ (h.fp.row 0 (by omega))
  refine ⟨h.p10.below hb, ⟨(hb.cell (p := ⟨10, 0, none⟩) (by show 10 < _; omega)).trans h.fp.i0, (hb.cell (p := ⟨13, 0, none⟩) (by show 13 < _; omega)).trans h.fp.c, fun i hi => (hb.cell (p := ⟨fb, fo + i, none⟩) hfb).trans (h.fp.row i hi)⟩, ?_, h.two.below hb (by omega), (hb.cell (p := ⟨9, 0, none⟩) (by show 9 < _; omega)).trans h.opt⟩
  have := h.ft.below hb
  exact { this with b1 := Nat.lt_of_lt_of_le this.b1 hb.size, b2 := Nat.lt_of_lt_of_le this.b2 hb.size, b3 := Nat.lt_of_lt_of_le this.b3 hb.size }

set_option maxRecDepth 100000 in
theorem zero110 : Tryz.zeroCells110.toList = (List.range 804).map (cellsD dc0) := by kernel_rfl
theorem fresh110 (w : World) : DAt (w.alloc (.cells Tryz.zeroCells110 110)) w.heap.size dc0 := by
  have hsz : Tryz.zeroCells110.size = 804 := by rw [← Array.length_toList, zero110]; simp
  have := World.rowIs_alloc w Tryz.zeroCells110 110 (cellsD dc0) (fun i hi => by
    rw [← Array.getElem?_toList, zero110]
    rw [hsz] at hi
    simp [hi])
  rw [hsz] at this
  exact this

set_option maxHeartbeats 6400000 in
set_option maxRecDepth 20000 in
theorem a_slow (l : List UInt8) (hl : l.length ≤ 1000000000) (f0 n0 : Nat) (m p : Int) (neg : Bool) (n : Nat) (hn : n ≤ l.length) (m0 : 0 ≤ m) (m1 : m ≤ 18446744073709551615) (hm : m ≠ 0) (hp1 : p ≤ 310) (hp0 : -345 ≤ p) (c71 : Gives 71 #[.string (str l)] (.tuple #[.float .f64 f0, .int .i64 n0, .bool false])) (c72 : Gives 72 #[.string (str l)] (RF.val ⟨m, p, neg, true, false, n, true⟩)) : A64 l := by
  unfold RF.val at c72
  simp only [] at c72
  have cB := sg_gives neg
  have hsh := sg_shl neg
  generalize sgB neg = B1 at cB hsh
  generalize sgS neg = S at hsh
  have h0' : (m == 0) = false := beq_eq_false_iff_ne.2 hm
  obtain ⟨f, err, herr, cP⟩ := pf64_gives m p S m0 m1 hp0 hp1
  obtain ⟨M, hM⟩ : ∃ M : Int, IntKind.u64.wrap (m + 1) = M := ⟨_, rfl⟩
  have hMk := wrapu_ok (m + 1)
  rw [hM] at hMk
  obtain ⟨f1, err1, herr1, cP1⟩ := pf64_gives M p S hMk.1 hMk.2 hp0 hp1
  cases heq : (FloatKind.f64.format.order f f1 == some Ordering.eq) with
  | true =>
    refine ⟨f, n, err, herr, fun fb fo fc pb po pc blk o cap w hT => ?_⟩
    have topt := hT.opt
    have cP' := cP w hT.p10
    have cP1' := fun w' (hb : Below w.heap.size w w') => cP1 w' (hT.p10.below hb)
    clear hT cP cP1
    go_enter Tryz.func63, Tryz.ntmps63
    go_wp2_with (first | (go_at_call 71; go_fit (c71 _); rintro e w' ⟨rfl, rfl⟩) | (go_at_call 72; go_fit (c72 _); rintro e w' ⟨rfl, rfl⟩) | (go_at_call 80; go_fit (cB _); rintro e w' ⟨rfl, rfl⟩) | (go_at_call 83; go_fit cP'; rintro e w1 ⟨rfl, hb⟩) | (go_at_call 83; go_fit (cP1' _ hb); rintro e w2 ⟨rfl, hb2⟩))
    go_ret3
    exact ⟨rfl, hb.trans (hb2.mono hb.size)⟩
  | false =>
    have cS := fun g B hB w h => setAll g B hB (l.take n) (by rw [List.length_take]; omega) w h
    have hst := fun s' => st_ok (l := l.take n) (by rw [List.length_take]; omega) (s' := s')
    cases hS : st (l.take n) with
    | none =>
      rw [hS] at cS
      refine ⟨0, n, .iface 65 (.int .i64 2), .inr (.inr rfl), fun fb fo fc pb po pc blk o cap w hT => ?_⟩
      have topt := hT.opt
      have cP' := cP w hT.p10
      have cP1' := fun w' (hb : Below w.heap.size w w') => cP1 w' (hT.p10.below hb)
      have HT := hid_of hT
      clear hT cP cP1 hst hS
      go_enter Tryz.func63, Tryz.ntmps63
      go_wp2_with (first | (go_at_call 71; go_fit (c71 _); rintro e w' ⟨rfl, hww⟩; have hww' := hww.symm; subst hww'; clear hww) | (go_at_call 72; go_fit (c72 _); rintro e w' ⟨rfl, hww⟩; have hww' := hww.symm; subst hww'; clear hww) | (go_at_call 80; go_fit (cB _); rintro e w' ⟨rfl, hww⟩; have hww' := hww.symm; subst hww'; clear hww) | (go_at_call 83; go_fit cP'; rintro e w1 ⟨rfl, hb⟩) | (go_at_call 83; go_fit (cP1' _ hb); rintro e w2 ⟨rfl, hb2⟩) | (go_at_call 78; go_fit (cS _ w2.heap.size (Nat.le_refl _) _ (fresh110 w2)); rintro e w3 ⟨hb3, rfl⟩))
      go_ret3
      have hB2 := hb.trans (hb2.mono hb.size)
      have hB3 := hB2.alloc hB2.size (.cells Tryz.zeroCells110 110)
      exact ⟨rfl, hB3.trans (hb3.mono hB2.size)⟩
    | some s5 =>
      rw [hS] at cS
      have hok := hst s5 hS
      obtain ⟨rb, hrb⟩ : ∃ rb, fbR s5 = rb := ⟨_, rfl⟩
      obtain ⟨b, ov⟩ := rb
      have cF := fun g B pb po pc blk o cap hB w h hF => fb_calls g B pb po pc blk o cap hB s5 hok.ok w h hF
      rw [hrb] at cF
      clear hst hrb
      cases ov with
      | true =>
        refine ⟨b.toNat, n, .iface 65 (.int .i64 1), .inr (.inl rfl), fun fb fo fc pb po pc blk o cap w hT => ?_⟩
        have topt := hT.opt
        have cP' := cP w hT.p10
        have cP1' := fun w' (hb : Below w.heap.size w w') => cP1 w' (hT.p10.below hb)
        have HT := hid_of hT
        clear hT cP cP1 hS hok
        go_enter Tryz.func63, Tryz.ntmps63
        go_wp2_with (first | (go_at_call 71; go_fit (c71 _); rintro e w' ⟨rfl, hww⟩; have hww' := hww.symm; subst hww'; clear hww) | (go_at_call 72; go_fit (c72 _); rintro e w' ⟨rfl, hww⟩; have hww' := hww.symm; subst hww'; clear hww) | (go_at_call 80; go_fit (cB _); rintro e w' ⟨rfl, hww⟩; have hww' := hww.symm; subst hww'; clear hww) | (go_at_call 83; go_fit cP'; rintro e w1 ⟨rfl, hb⟩) | (go_at_call 83; go_fit (cP1' _ hb); rintro e w2 ⟨rfl, hb2⟩) | (go_at_call 78; go_fit (cS _ w2.heap.size (Nat.le_refl _) _ (fresh110 w2)); rintro e w3 ⟨hb3, rfl, hD3⟩; have hB2 := hb.trans (hb2.mono hb.size); have hB3 := (hB2.alloc hB2.size (.cells Tryz.zeroCells110 110)).trans (hb3.mono hB2.size); have hF3 := HT.out.ft.below hB3) | (go_at_call 79; go_fit (cF w2.heap.size w.heap.size pb po pc blk o cap hB2.size _ hD3 hF3); rintro e w4 ⟨rfl, hb4⟩))
        go_ret3
        exact ⟨rfl, hB3.trans hb4⟩
      | false =>
        refine ⟨b.toNat, n, .nilIface, .inl rfl, fun fb fo fc pb po pc blk o cap w hT => ?_⟩
        have topt := hT.opt
        have cP' := cP w hT.p10
        have cP1' := fun w' (hb : Below w.heap.size w w') => cP1 w' (hT.p10.below hb)
        have HT := hid_of hT
        clear hT cP cP1 hS hok
        go_enter Tryz.func63, Tryz.ntmps63
        go_wp2_with (first | (go_at_call 71; go_fit (c71 _); rintro e w' ⟨rfl, hww⟩; have hww' := hww.symm; subst hww'; clear hww) | (go_at_call 72; go_fit (c72 _); rintro e w' ⟨rfl, hww⟩; have hww' := hww.symm; subst hww'; clear hww) | (go_at_call 80; go_fit (cB _); rintro e w' ⟨rfl, hww⟩; have hww' := hww.symm; subst hww'; clear hww) | (go_at_call 83; go_fit cP'; rintro e w1 ⟨rfl, hb⟩) | (go_at_call 83; go_fit (cP1' _ hb); rintro e w2 ⟨rfl, hb2⟩) | (go_at_call 78; go_fit (cS _ w2.heap.size (Nat.le_refl _) _ (fresh110 w2)); rintro e w3 ⟨hb3, rfl, hD3⟩; have hB2 := hb.trans (hb2.mono hb.size); have hB3 := (hB2.alloc hB2.size (.cells Tryz.zeroCells110 110)).trans (hb3.mono hB2.size); have hF3 := HT.out.ft.below hB3) | (go_at_call 79; go_fit (cF w2.heap.size w.heap.size pb po pc blk o cap hB2.size _ hD3 hF3); rintro e w4 ⟨rfl, hb4⟩))
        go_ret3
        exact ⟨rfl, hB3.trans hb4⟩

/-- atof64: one answer. -/
theorem a64 (l : List UInt8) (hl : l.length ≤ 1000000000) : A64 l := by
  obtain ⟨f0, n0, ok, c71⟩ := special_gives l hl
  cases ok with
  | true => exact a_spec l f0 n0 c71
  | false =>
    have c72 := rfAll l hl
    have hR := rf_ok uokF l hl
    generalize rf uokF l = r at c72 hR
    obtain ⟨m, p, neg, tr, hex, n, ok⟩ := r
    cases ok with
    | false => exact a_bad l f0 n0 _ c71 c72 rfl
    | true =>
      cases hex with
      | true => exact a_hex l hl f0 n0 m p neg tr n hR c71 c72
      | false =>
        by_cases he : m = 0 ∨ p > 310 ∨ p < -345
        · exact a_easy l f0 n0 m p neg tr n he c71 c72
        · cases tr with
          | false => exact a_fast l f0 n0 m p neg n hR.m0 hR.m1 (fun h => he (.inl h)) (by omega) (by omega) c71 c72
          | true => exact a_slow l hl f0 n0 m p neg n hR.n hR.m0 hR.m1 (fun h => he (.inl h)) (by omega) (by omega) c71 c72
end Go.Proofs.Qxb6606206aGreatDoor
