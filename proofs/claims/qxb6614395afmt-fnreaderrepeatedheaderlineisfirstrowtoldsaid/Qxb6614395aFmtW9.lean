import Derived.Test.Qxb6614395aFmtW8
set_option linter.unusedSimpArgs false
set_option linter.unusedVariables false
namespace Go.Proofs.Qxb6614395aFmt
open Go Go.RowKit Go.Deep Go.Extern.Stop Go.Stop Go.Extern
attribute [local go_sem] str_size str_get str_extract str_toList str_append

/-- The state of ReadSlice's loop: bf is in the buffer; its first k bytes hold no line's end. -/
def LP (g : Nat) (eof : Value) (s : Nat × Bool) (rest : List UInt8) (k : Nat) (bf un : List UInt8) (e : Value) (r : Nat) (w wr : World) : Prop :=
  rest = bf ++ un ∧ fits s bf ∧ Buf g r bf e wr ∧ k ≤ bf.length ∧ 10 ∉ bf.take k ∧ Only (own g) w wr ∧ Under g eof (adv s bf) un e wr

/-- ReadSlice behind its loop. -/
def MidR (g : Nat) (eof bfull : Value) (s : Nat × Bool) (rest : List UInt8) (w : World) (v4 v5 : Value) (wr : World) : Prop :=
  ∃ o n cap x, v4 = .slice (some ⟨g + 3, o, none⟩) n cap ∧ n ≤ cap ∧ x.length = n ∧ n ≤ 4096 ∧ Seg wr (g + 3) o x ∧ Only (own g) w wr ∧ RSC g eof bfull s rest o x v5 wr ∧ ∃ r wv e lb ls, SAt (g + 2) 117 (brC g r wv e lb ls) wr

theorem RSC.last {g : Nat} {eof bfull : Value} {s : Nat × Bool} {rest : List UInt8} {o : Nat} {x : List UInt8} {E : Value} {w : World} (h : RSC g eof bfull s rest o x E w) (a b : Int) : RSC g eof bfull s rest o x E ((w.setCell ⟨g + 2, 5, none⟩ (.int .i64 a)).setCell ⟨g + 2, 6, none⟩ (.int .i64 b)) := by
  rcases h with ⟨h1, h2, h3, h4, h5⟩ | ⟨h1, h2, r, h3, h4, h5, h6⟩ | ⟨h1, h2, h3, h4, r, h5⟩ | h
  · exact .inl ⟨h1, h2, h3, h4, h5.last a b⟩
  · exact .inr (.inl ⟨h1, h2, r, h3, h4, h5, h6.last a b⟩)
  · exact .inr (.inr (.inl ⟨h1, h2, h3, h4, r, h5.last a b⟩))
  · obtain ⟨N, h1, h2, h3, h4⟩ := h
    exact .inr (.inr (.inr ⟨N, h1, h2, (h3.setCell _ _).setCell _ _, h4⟩))

theorem Buf.clear {g r : Nat} {bf : List UInt8} {e : Value} {w : World} (h : Buf g r bf e w) : Buf g r bf .nilIface (w.setCell ⟨g + 2, 4, none⟩ .nilIface) := by
  obtain ⟨B, lb, ls, h1, h2, h3, h4, h5⟩ := h
  exact ⟨B, lb, ls, h1, h2, h3, h4.other (by simp) _, h5.set' 4 _ (by simp [brC])⟩

set_option maxHeartbeats 1600000 in
set_option maxRecDepth 20000 in
theorem rs_calls (F : Interp) (g : Nat) (eof bfull : Value) (s : Nat × Bool) (rest : List UInt8) (r : Nat) (w : World) (hF : F.answers w.tape) (hE : w.cell? ⟨0, 0, none⟩ = some eof) (hBF : w.cell? ⟨7, 0, none⟩ = some bfull) (hg7 : 10 < g)
    (heof : ∃ t v, eof = .iface t v) (hsz : g + 6 ≤ w.heap.size) (hsrc : Src g eof s rest r w) :
    Calls Tryf.prog 71 #[.pointer (some ⟨g + 2, 0, none⟩), .int .u8 10] w (RSPost g eof bfull s rest w) := by
  obtain ⟨hs, bf, un, e, hrest, hfit, hbuf, hund⟩ := hsrc
  have HLP : Hid (LP g eof s rest 0 bf un e r w w) := ⟨hrest, hfit, hbuf, Nat.zero_le _, by simp, Only.refl _ _, hund⟩
  obtain ⟨fu, hfu⟩ : ∃ fu, un.length + 2 = fu := ⟨_, rfl⟩
  clear hrest hfit hbuf hund
  go_enter Tryf.func71, Tryf.ntmps71
  go_upto_block 0 with fail
  go_cut [4, 5, 6, 7] from 9 to 113 (fun v4 v5 v6 v7 wr => MidR g eof bfull s rest w v4 v5 wr)
  case first =>
    go_wp2_with fail
    go_loopg [5, 6] fu (fun f v5 v6 wr => ∃ (k : Nat) (bf un : List UInt8) (e : Value) (r : Nat), v5 = .nilIface ∧ v6 = .int .i64 k ∧ Hid (LP g eof s rest k bf un e r w wr) ∧ Hid (e = .nilIface → un.length + 2 ≤ f) ∧ 1 ≤ f)
    case atStart => exact ⟨0, bf, un, e, r, rfl, rfl, HLP, fun _ => by omega, by omega⟩
    case round =>
      clear HLP hfu
      obtain ⟨k, bf, un, e, r, rfl, rfl, hlp, hfl, hf1⟩ := hrel
      obtain ⟨f, rfl⟩ : ∃ f, gk = f + 1 := ⟨gk - 1, by omega⟩
      obtain ⟨hrest, hfit, hbuf, hk, hk10, ho, hund⟩ := hlp.out
      obtain ⟨L, hL⟩ : ∃ L, bf.length = L := ⟨_, rfl⟩
      have HLL := hid_of hL
      have hE' := ho.cell hE (by unfold own; simp only []; omega)
      have hBF' := ho.cell hBF (by unfold own; simp only []; omega)
      have hF' : F.answers wr.tape := by rw [ho.tape]; exact hF
      have hbuf' := hbuf
      obtain ⟨B, lb, ls, hB4, hrw, hBr, hB, hb2⟩ := hbuf
      rw [hL] at hrw hBr hb2 hk
      have c0 := hb2.cell (i := 0) rfl
      have c2 := hb2.cell (i := 2) rfl
      have c3 := hb2.cell (i := 3) rfl
      have c4 := hb2.cell (i := 4) rfl
      have f2 := hb2.frozen 2
      have f4 := hb2.frozen 4
      rw [Int.natCast_add] at c3
      have hsegB : Seg wr (g + 3) r bf := by
        have := Seg.of_sat (o := r) hB L
        rwa [hBr] at this
      obtain ⟨o2, hqa, hs2⟩ : ∃ o2, (if 4096 = r + k then some (⟨g + 3, 0, none⟩ : Addr) else some ⟨g + 3, r + k, none⟩) = some ⟨g + 3, o2, none⟩ ∧ Seg wr (g + 3) o2 (bf.drop k) := by
        by_cases h4 : 4096 = r + k
        · refine ⟨0, if_pos h4, ?_⟩
          have : bf.drop k = [] := List.drop_eq_nil_of_le (by omega)
          rw [this]
          intro i hi; simp at hi
        · exact ⟨r + k, if_neg h4, hsegB.drop k⟩
      have cI := fun m => index_calls (wr.drewN m) (g + 3) o2 (r + L - (r + k)) (4096 - (r + k)) (bf.drop k) (by rw [List.length_drop, hL]; omega) hs2 10
      rw [show ((10 : Int).toNat).toUInt8 = 10 by rfl] at cI
      obtain ⟨x, hx⟩ : ∃ x, Lib.indexByte (bf.drop k) 10 = x := ⟨_, rfl⟩
      rw [hx] at cI
      have HX := hid_of hx
      have HCI := hid_of cI
      have i1 : (0 : Int) ≤ (r : Int) + (k : Int) := by omega
      have i2 : (r : Int) + (k : Int) ≤ (r : Int) + (L : Int) := by omega
      have i3 : (r : Int) + (L : Int) ≤ 4096 := by omega
      have i4 : (r : Int) + (k : Int) ≤ 4096 := by omega
      have i5 : IntKind.i64.wrap ((r : Int) + (k : Int)) = (r : Int) + (k : Int) := IntWalk.i64_in _ (by omega)
      have i6 : ((r : Int) + (k : Int)).toNat = r + k := by omega
      have i7 : ((r : Int) + (L : Int)).toNat = r + L := by omega
      have HB := hid_of hB
      have H2 := hid_of hb2
      have HO := hid_of ho
      have HBr := hid_of hBr
      have HSB := hid_of hsegB
      have HBUF := hid_of hbuf'
      have HUND := hid_of hund
      have HREST := hid_of hrest
      have HFIT := hid_of hfit
      have HK10 := hid_of hk10
      clear hL hB hb2 ho hBr hsegB hs2 cI hx hlp hbuf' hund hrest hfit hk10
      go_wp2_with fail
      go_region_held3 (fun w' => w'.cell? ⟨g + 2, 0, none⟩ = some (.slice (some ⟨g + 3, 0, none⟩) 4096 4096) ∧ w'.cell? ⟨g + 2, 2, none⟩ = some (.int .i64 r) ∧ w'.cell? ⟨g + 2, 3, none⟩ = some (.int .i64 ((r : Int) + (L : Int)))) (go_keep) ((go_at_call 30; go_fit (HCI.out _); rintro e w2 ⟨rfl, rfl⟩))
      rcases indexByte_cases (bf.drop k) 10 with ⟨ex, hno⟩ | ⟨j, ex, hj, hj2, hj3⟩
      · rw [HX.out] at ex
        subst ex
        have hno' : 10 ∉ bf := by
          rw [← List.take_append_drop k bf, List.mem_append]
          rintro (h | h)
          · exact HK10.out h
          · exact hno h
        have HNO := hid_of hno'
        clear hno hno'
        obtain ⟨p3, hp3, hs3⟩ : ∃ o3, (if 4096 = r then some (⟨g + 3, 0, none⟩ : Addr) else some ⟨g + 3, r, none⟩) = some ⟨g + 3, o3, none⟩ ∧ Hid (Seg wr (g + 3) o3 bf) := by
          by_cases h4 : 4096 = r
          · refine ⟨0, if_pos h4, ?_⟩
            have : bf = [] := List.eq_nil_of_length_eq_zero (by rw [HLL.out]; omega)
            show Seg _ _ _ _
            rw [this]
            intro i hi; simp at hi
          · exact ⟨r, if_neg h4, HSB.out⟩
        have b0 : (0 : Int) ≤ (r : Int) := by omega
        have b1 : (r : Int) ≤ (r : Int) + (L : Int) := by omega
        have hb5 := fun m => buffered_calls g r L e lb ls (wr.drewN m) hrw (H2.out.drewN m)
        rcases HUND.out with ⟨hrun, rfl | ⟨rfl, hun⟩⟩ | ⟨N, rfl, hN, hNc, htr⟩
        · have HRUN := hid_of hrun
          have hfl2 : un.length + 2 ≤ f + 1 := hfl.out rfl
          clear hrun HUND hfl
          by_cases hfull : L = 4096
          · have hr0 : r = 0 := by omega
            subst hr0
            subst hfull
            go_wp2_with fail
            go_region_held3 (fun w' => w'.cell? ⟨g + 2, 0, none⟩ = some (.slice (some ⟨g + 3, 0, none⟩) 4096 4096)) (go_keep) ((go_at_call 67; go_fit (hb5 _); rintro e w3 ⟨rfl, kq, rfl⟩))
            go_wp2_with fail
            go_meet
            have hsr := fun m => src_adv (eof := eof) (w := wr.drewN m) hs HREST.out HFIT.out HBUF.out (.inl ⟨HRUN.out, .inl rfl⟩) 4096 (by rw [HLL.out]; exact Nat.le_refl _) (y := 4096) (by omega)
            have htk : bf.take 4096 = bf := List.take_of_length_le (by rw [HLL.out]; exact Nat.le_refl _)
            have hdr : rest.drop 4096 = un := by rw [HREST.out, List.drop_append_of_le_length (by rw [HLL.out]; exact Nat.le_refl _), List.drop_eq_nil_of_le (by rw [HLL.out]; exact Nat.le_refl _), List.nil_append]
            rw [htk, hdr] at hsr
            refine ⟨0, 4096, 4096, bf, rfl, Nat.le_refl _, HLL.out, Nat.le_refl _, ?_, ?_, .inr (.inl ⟨rfl, HLL.out, un, HREST.out, HNO.out, HFIT.out, ?_⟩), ?_⟩
            · exact HSB.out.of_block (blk_setCell_other _ _ _ _ (by simp))
            · exact ((HO.out.drewN _).setCell (.inl (by unfold own; simp only []; omega)) _)
            · exact hsr _
            · exact ⟨4096, 4096, .nilIface, lb, ls, (H2.out.drewN _).set' 2 _ (by simp [brC])⟩
          · have hfl4 : L < 4096 := by omega
            have cF := fun m => fill_calls F g eof s bf un r (wr.drewN m) hF' hE' (by omega) heof hs HFIT.out HRUN.out HBUF.out (by rw [HLL.out]; exact hfl4)
            go_wp2_with fail
            go_region_held3 (fun w' => w'.cell? ⟨g + 2, 0, none⟩ = some (.slice (some ⟨g + 3, 0, none⟩) 4096 4096)) (go_keep) ((go_at_call 67; go_fit (hb5 _); rintro e w3 ⟨rfl, kq, rfl⟩))
            go_wp2_with fail
            go_quiet (fail)
            go_wp2_with (go_at_call 65; go_fit (cF _); rintro e w3 ⟨rfl, hof, hcs⟩)
            have hO3 : Only (own g) w w3 := (HO.out.drewN _).trans hof (fun _ _ h => h)
            have hval : Value.int IntKind.i64 ((r : Int) + (L : Int) - (r : Int)) = .int .i64 ((L : Nat) : Int) := congrArg _ (by omega)
            have htkL : bf.take L = bf := List.take_of_length_le (by rw [HLL.out]; exact Nat.le_refl _)
            have hLb : L = bf.length := HLL.out.symm
            rcases hcs with ⟨h1, h2, h3⟩ | ⟨ch, un', h1, h2, h3, h4, h5⟩ | ⟨ch, un', N, h1, h2, h6, h3, h4, h5, -⟩
            · go_roundg f
              case measure => omega
              case rel =>
                refine ⟨L, bf, [], eof, 0, rfl, hval, ⟨by rw [HREST.out, h1], HFIT.out, h3, by omega, by rw [htkL]; exact HNO.out, hO3, .inl ⟨h2, .inr ⟨rfl, rfl⟩⟩⟩, ?_, ?_⟩
                · intro he
                  obtain ⟨te, ve, rfl⟩ := heof
                  cases he
                · omega
            · go_roundg f
              case measure => omega
              case rel =>
                refine ⟨L, bf ++ ch, un', .nilIface, 0, rfl, hval, ⟨by rw [HREST.out, h1, List.append_assoc], h5, h4, by rw [List.length_append]; omega, ?_, hO3, .inl ⟨h3, .inl rfl⟩⟩, ?_, ?_⟩
                · rw [List.take_append_of_le_length (by omega), htkL]; exact HNO.out
                · intro _
                  rw [h1, List.length_append] at hfl2
                  omega
                · omega
            · go_roundg f
              case measure => omega
              case rel =>
                refine ⟨L, bf ++ ch, un', tripE N, 0, rfl, hval, ⟨by rw [HREST.out, h1, List.append_assoc], h4, h3, by rw [List.length_append]; omega, ?_, hO3, .inr ⟨N, rfl, ?_, h6, h5⟩⟩, ?_, ?_⟩
                · rw [List.take_append_of_le_length (by omega), htkL]; exact HNO.out
                · have := HO.out.size
                  have : wr.heap.size ≤ N := h2
                  omega
                · intro he; cases he
                · omega
        · obtain ⟨te, ve, rfl⟩ := heof
          have hre : ∀ m y, y = (r : Int) + (L : Int) → Calls Tryf.prog 66 #[.pointer (some ⟨g + 2, 0, none⟩)] ((wr.drewN m).setCell ⟨g + 2, 2, none⟩ (.int .i64 y)) fun e w' => e = .returned (.iface te ve) ∧ w' = ((wr.drewN m).setCell ⟨g + 2, 2, none⟩ (.int .i64 y)).setCell ⟨g + 2, 4, none⟩ .nilIface := by
            rintro m y rfl
            exact readErr_calls g (r + L) (r + L) (.iface te ve) lb ls _ ((H2.out.drewN m).set' 2 _ (by simp [brC]))
          go_wp2_with fail
          go_region_held3 (fun w' => w'.cell? ⟨g + 2, 0, none⟩ = some (.slice (some ⟨g + 3, 0, none⟩) 4096 4096) ∧ w'.cell? ⟨g + 2, 2, none⟩ = some (.int .i64 r) ∧ w'.cell? ⟨g + 2, 3, none⟩ = some (.int .i64 ((r : Int) + (L : Int)))) (go_keep) (fail)
          go_wp2_with (go_at_call 66; go_fit (hre _ _ rfl); rintro e w3 ⟨rfl, rfl⟩)
          go_meet
          have hrb : rest = bf := by rw [HREST.out, hun, List.append_nil]
          have hW : Only (fun k => k = g + 2) wr (((wr.drewN 2).setCell ⟨g + 2, 2, none⟩ (.int .i64 ((r : Int) + (L : Int)))).setCell ⟨g + 2, 4, none⟩ .nilIface) := (((Only.refl (fun k => k = g + 2) wr).drewN 2).setCell (.inl rfl) _).setCell (.inl rfl) _
          have hdr : bf.drop L = [] := List.drop_eq_nil_of_le (by rw [HLL.out]; exact Nat.le_refl _)
          have hbc := ((show Buf g r bf (.iface te ve) (wr.drewN 2) from HBUF.out).adv L (by rw [HLL.out]; exact Nat.le_refl _) (y := (r : Int) + (L : Int)) (by omega)).clear
          rw [hdr] at hbc
          refine ⟨p3, L, 4096 - r, bf, rfl, by omega, HLL.out, by omega, ?_, ?_, .inr (.inr (.inl ⟨rfl, hrb.symm, by rw [hrb]; exact HNO.out, by rw [hrb]; exact HFIT.out, r + L, ?_⟩)), ?_⟩
          · exact (hs3.out.of_block (hW.block _ HB.out.lt (by omega)))
          · exact HO.out.trans hW (fun k _ hk => by unfold own; omega)
          · rw [hrb]
            refine ⟨fits_le _ _ HFIT.out hs, [], [], .nilIface, rfl, trivial, hbc, .inl ⟨?_, .inl rfl⟩⟩
            rw [hun] at hrun
            exact hrun.only hW (by omega) (by omega)
          · exact ⟨r + L, r + L, .nilIface, lb, ls, ((H2.out.drewN 2).set 2 _).set' 4 _ (by simp [brC])⟩
        · have hre : ∀ m y, y = (r : Int) + (L : Int) → Calls Tryf.prog 66 #[.pointer (some ⟨g + 2, 0, none⟩)] ((wr.drewN m).setCell ⟨g + 2, 2, none⟩ (.int .i64 y)) fun e w' => e = .returned (tripE N) ∧ w' = ((wr.drewN m).setCell ⟨g + 2, 2, none⟩ (.int .i64 y)).setCell ⟨g + 2, 4, none⟩ .nilIface := by
            rintro m y rfl
            exact readErr_calls g (r + L) (r + L) (tripE N) lb ls _ ((H2.out.drewN m).set' 2 _ (by simp [brC]))
          unfold tripE at c4
          go_wp2_with fail
          go_region_held3 (fun w' => w'.cell? ⟨g + 2, 0, none⟩ = some (.slice (some ⟨g + 3, 0, none⟩) 4096 4096) ∧ w'.cell? ⟨g + 2, 2, none⟩ = some (.int .i64 r) ∧ w'.cell? ⟨g + 2, 3, none⟩ = some (.int .i64 ((r : Int) + (L : Int)))) (go_keep) (fail)
          go_wp2_with (go_at_call 66; go_fit (hre _ _ rfl); rintro e w3 ⟨rfl, rfl⟩)
          go_meet
          have hW : Only (fun k => k = g + 2) wr (((wr.drewN 2).setCell ⟨g + 2, 2, none⟩ (.int .i64 ((r : Int) + (L : Int)))).setCell ⟨g + 2, 4, none⟩ .nilIface) := (((Only.refl (fun k => k = g + 2) wr).drewN 2).setCell (.inl rfl) _).setCell (.inl rfl) _
          refine ⟨p3, L, 4096 - r, bf, rfl, by omega, HLL.out, by omega, ?_, ?_, .inr (.inr (.inr ⟨N, rfl, hN, hW.cells _ hNc, HNO.out, (by rw [HREST.out]; intro b hb; exact List.mem_append_left _ hb), ?_⟩)), ?_⟩
          · exact (hs3.out.of_block (hW.block _ HB.out.lt (by omega)))
          · exact HO.out.trans hW (fun k _ hk => by unfold own; omega)
          · rw [(adv_piece bf s HNO.out).1] at htr
            rw [HREST.out, lineLen_append_none un HNO.out]
            simp only [] at htr
            omega
          · exact ⟨r + L, r + L, .nilIface, lb, ls, ((H2.out.drewN 2).set 2 _).set' 4 _ (by simp [brC])⟩
      · rw [HX.out] at ex
        subst ex
        rw [List.length_drop, HLL.out] at hj
        have HJ2 := hid_of hj2
        have HJ3 := hid_of hj3
        have hr4 : ¬ (4096 = r) := by omega
        have j0 : (0 : Int) ≤ (j : Int) := by omega
        have w1 : IntKind.i64.wrap ((j : Int) + (k : Int)) = (j : Int) + (k : Int) := IntWalk.i64_in _ (by omega)
        have w2' : IntKind.i64.wrap ((r : Int) + ((j : Int) + (k : Int))) = (r : Int) + ((j : Int) + (k : Int)) := IntWalk.i64_in _ (by omega)
        have w3 : IntKind.i64.wrap ((r : Int) + ((j : Int) + (k : Int)) + 1) = (r : Int) + ((j : Int) + (k : Int)) + 1 := IntWalk.i64_in _ (by omega)
        have b0 : (0 : Int) ≤ (r : Int) := by omega
        have b1 : (r : Int) ≤ (r : Int) + ((j : Int) + (k : Int)) + 1 := by omega
        have b2 : (r : Int) + ((j : Int) + (k : Int)) + 1 ≤ 4096 := by omega
        have b3 : ((r : Int) + ((j : Int) + (k : Int)) + 1).toNat = r + (j + k) + 1 := by omega
        clear hj2 hj3
        go_wp2_with fail
        go_region_held3 (fun w' => w'.cell? ⟨g + 2, 0, none⟩ = some (.slice (some ⟨g + 3, 0, none⟩) 4096 4096) ∧ w'.cell? ⟨g + 2, 2, none⟩ = some (.int .i64 r)) (go_keep) (fail)
        go_wp2_with fail
        go_meet
        have hj' : j + k < bf.length := by rw [HLL.out]; omega
        have hnn : 10 ∉ bf.take (j + k) := by
          rw [Nat.add_comm, List.take_add, List.mem_append]
          rintro (h | h)
          · exact HK10.out h
          · exact HJ3.out h
        have hbj : bf[j + k] = 10 := by
          have := HJ2.out
          rw [List.getElem_drop] at this
          rw [← this]
          congr 1
          omega
        have hrl : rest.length = bf.length + un.length := by rw [HREST.out, List.length_append]
        have hll : lineLen rest = j + k + 1 := by
          refine lineLen_some (by omega) ?_ ?_
          · simp only [HREST.out]
            rw [List.getElem_append_left hj']; exact hbj
          · rw [HREST.out, List.take_append_of_le_length (by omega)]; exact hnn
        have htk : bf.take (j + k + 1) = rest.take (lineLen rest) := by
          rw [hll, HREST.out, List.take_append_of_le_length (by omega)]
        refine ⟨r, _, _, bf.take (j + k + 1), rfl, ?_, ?_, ?_, ?_, ?_, .inl ⟨rfl, htk, ?_, ?_, ?_⟩, ?_⟩
        · omega
        · rw [List.length_take, HLL.out]; omega
        · omega
        · exact (HSB.out.take _).of_block (blk_setCell_other _ _ _ _ (by simp))
        · exact ((HO.out.drewN _).setCell (.inl (by unfold own; simp only []; omega)) _)
        · rw [HREST.out, List.mem_append]; left
          rw [← hbj]; exact List.getElem_mem hj'
        · rw [hll]
          have hf2 : fits s (bf.take (j + k + 1) ++ bf.drop (j + k + 1)) := by rw [List.take_append_drop]; exact HFIT.out
          exact fits_some s hj' hbj hnn ((fits_append _ _ _).1 hf2).1
        · have := src_adv (w := wr.drewN 2) hs HREST.out HFIT.out HBUF.out HUND.out (j + k + 1) (by omega) (y := (r : Int) + ((j : Int) + (k : Int) + 1)) (by omega)
          rw [hll, List.length_take, Nat.min_eq_left (by omega)]
          exact this
        · exact ⟨r + (j + k + 1), r + L, e, lb, ls, (H2.out.drewN 2).set' 2 _ (by simp [brC])⟩
  case rest =>
  obtain ⟨o, n, cap, x, rfl, hnc, hxn, hn4, hseg, ho, hrsc, r', wv', e', lb, ls, h2⟩ := hcut
  have f5 := h2.frozen 5
  have f6 := h2.frozen 6
  have c5 := h2.cell (i := 5) rfl
  have c6 := h2.cell (i := 6) rfl
  have HSEG := hid_of hseg
  have HO := hid_of ho
  have HR := hid_of hrsc
  have HX := hid_of hxn
  by_cases hn0 : n = 0
  · subst hn0
    clear hseg ho hrsc h2 hxn HLP
    go_wp2_with fail
    go_ret2
    exact ⟨o, 0, cap, x, _, rfl, hnc, HX.out, hn4, HSEG.out, HO.out, HR.out⟩
  · obtain ⟨c, cl⟩ : ∃ c : UInt8, wc.cell? ⟨g + 3, o + (n - 1), none⟩ = some (.int .u8 (c.toNat : Int)) := ⟨_, hseg (n - 1) (by omega)⟩
    have hn1 : (0 : Int) ≤ (n : Int) - 1 := by omega
    clear hseg ho hrsc h2 hxn HLP
    go_wp2_with fail
    go_ret2
    refine ⟨o, n, cap, x, _, rfl, hnc, HX.out, hn4, ?_, ?_, HR.out.last _ _⟩
    · exact (HSEG.out.of_block (blk_setCell_other _ _ _ _ (by simp))).of_block (blk_setCell_other _ _ _ _ (by simp))
    · exact (HO.out.setCell (.inl (by unfold own; simp only []; omega)) _).setCell (.inl (by unfold own; simp only []; omega)) _
end Go.Proofs.Qxb6614395aFmt
