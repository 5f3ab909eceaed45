import Derived.Test.Qxb6614395aFmtW5
set_option linter.unusedSimpArgs false
set_option linter.unusedVariables false
namespace Go.Proofs.Qxb6614395aFmt
open Go Go.RowKit Go.Deep Go.Extern.Stop Go.Stop Go.Extern
attribute [local go_sem] str_size str_get str_extract str_toList str_append

theorem Beg.buf {g : Nat} {x : List UInt8} {w : World} (h : Beg g x w) {n : Nat} (hn : x.length = n) {e : Value} {lb ls : Int} {w' : World} (ho : Only (fun k => k = g + 2) w w') (h2 : SAt (g + 2) 117 (brC g 0 n e lb ls) w') : Buf g 0 x e w' := by
  obtain ⟨B, h4, hx, hB, hs⟩ := h
  subst hn
  exact ⟨B, lb, ls, h4, by omega, by simpa using hB, ho.sat hs (by omega), by simpa using h2⟩

set_option maxHeartbeats 1600000 in
set_option maxRecDepth 20000 in
theorem fill_calls (F : Interp) (g : Nat) (eof : Value) (s : Nat × Bool) (bf un : List UInt8) (r : Nat) (w : World) (hF : F.answers w.tape) (hE : w.cell? ⟨0, 0, none⟩ = some eof) (hg0 : 0 < g)
    (heof : ∃ t v, eof = .iface t v) (hs : s.1 ≤ 65536) (hfit : fits s bf) (hr : RunS g (adv s bf) un w) (hb : Buf g r bf .nilIface w) (hfull : bf.length < 4096) :
    Calls Tryf.prog 65 #[.pointer (some ⟨g + 2, 0, none⟩)] w (FillPost g eof s bf un w) := by
  have HR := hid_of hr
  have HFIT := hid_of hfit
  obtain ⟨L, hL⟩ : ∃ L, bf.length = L := ⟨_, rfl⟩
  have HLL := hid_of hL
  obtain ⟨B, lb, ls, hB4, hrw, hBr, hB, hb2⟩ := hb
  rw [hL] at hrw hBr hb2 hfull
  clear hL hr hfit
  have c0 := hb2.cell (i := 0) rfl
  have c2 := hb2.cell (i := 2) rfl
  have c3 := hb2.cell (i := 3) rfl
  have f2 := hb2.frozen 2
  have f3 := hb2.frozen 3
  have H2 := hid_of hb2
  have HB := hid_of hB
  have HBr := hid_of hBr
  clear hB hb2 hBr
  go_enter Tryf.func65, Tryf.ntmps65
  go_upto_if 9 with fail
  go_cut [] from 10 to 41 (fun wr => Buf g 0 bf .nilIface wr ∧ Only (fun k => k = g + 2 ∨ k = g + 3) w wr)
  case first =>
    by_cases hr0 : 0 < r
    · have hcp : ∀ o : Option Addr, o = (if 4096 = r then some ⟨g + 3, 0, none⟩ else some ⟨g + 3, r, none⟩) → (Builtin.copy_ #[36, 36] 3 #[.slice (some ⟨g + 3, 0, none⟩) 4096 4096, .slice o L (4096 - r)]).run Tryf.prog w.drew = .ok (.int .i64 L) (w.drew.setRow (g + 3) (bcells (bf ++ B.drop L)).toArray) := by
        rintro o rfl
        have := copy_down w.drew 3 (g + 3) r L (4096 - r) 4096 B (HB.out.drewN 1) (by omega)
        have h0 := copy_down w.drew 3 (g + 3) 0 0 (4096 - r) 4096 B (HB.out.drewN 1) (by omega)
        rw [HBr.out, hB4] at this
        by_cases h4 : 4096 = r
        · rw [if_pos h4]
          have hl0 : L = 0 := by omega
          subst hl0
          have hbf : bf = [] := List.eq_nil_of_length_eq_zero HLL.out
          rw [hB4] at h0
          simpa [hbf] using h0
        · rw [if_neg h4]; exact this
      obtain ⟨qa, hqa⟩ : ∃ qa, (if 4096 = r then some (⟨g + 3, 0, none⟩ : Addr) else some ⟨g + 3, r, none⟩) = some qa := by
        by_cases h4 : 4096 = r
        · exact ⟨_, if_pos h4⟩
        · exact ⟨_, if_neg h4⟩
      have hcp' := hcp _ hqa.symm
      have c2' : ∀ c, (w.drew.setRow (g + 3) c).cell? ⟨g + 2, 2, none⟩ = some (.int .i64 r) := fun c => ((H2.out.drewN 1).rowOther (by omega) c).cell rfl
      have c3' : ∀ c, (w.drew.setRow (g + 3) c).cell? ⟨g + 2, 3, none⟩ = some (.int .i64 ((r : Int) + (L : Int))) := fun c => ((H2.out.drewN 1).rowOther (by omega) c).cell rfl
      have f2' : ∀ c, (w.drew.setRow (g + 3) c).frozen? ⟨g + 2, 2, none⟩ = false := fun c => ((H2.out.drewN 1).rowOther (by omega) c).frozen 2
      have f3' : ∀ c, (w.drew.setRow (g + 3) c).frozen? ⟨g + 2, 3, none⟩ = false := fun c => ((H2.out.drewN 1).rowOther (by omega) c).frozen 3
      rw [Int.natCast_add] at c3
      have i1 : (0 : Int) ≤ (r : Int) := by omega
      have i2 : (r : Int) ≤ (r : Int) + (L : Int) := by omega
      have i3 : (r : Int) + (L : Int) ≤ 4096 := by omega
      have i4 : ((r : Int) + (L : Int)).toNat = r + L := by omega
      clear hcp
      go_wp2_with fail
      go_region
      go_wp2_with fail
      go_region
      go_wp2_with fail
      go_meet
      have hx : (bf ++ B.drop L).length = 4096 := by rw [List.length_append, List.length_drop, HLL.out]; omega
      refine ⟨⟨bf ++ B.drop L, lb, ls, hx, by rw [HLL.out]; omega, ?_, ?_, ?_⟩, ?_⟩
      · rw [List.drop_zero, List.take_append_of_le_length (Nat.le_refl _), List.take_of_length_le (Nat.le_refl _)]
      · exact (((HB.out.drewN 1).row _).drewN _).other (by simp) _ |>.other (by simp) _
      · rw [HLL.out]
        exact ((((H2.out.drewN 1).rowOther (by omega) _).drewN _).set 3 _).set' 2 _ (by simp [brC]; omega)
      · exact (((((Only.refl _ w).drewN 1).setRow (.inl (.inr rfl)) _).setCell (.inl (.inl rfl)) _).setCell (.inl (.inl rfl)) _).drew
    · have hr0' : r = 0 := by omega
      subst hr0'
      go_wp2_with fail
      go_meet
      refine ⟨⟨B, lb, ls, hB4, by rw [HLL.out]; omega, by rw [HLL.out]; exact HBr.out, HB.out, by rw [HLL.out]; exact H2.out⟩, Only.refl _ _⟩
  case rest =>
  obtain ⟨hb, ho⟩ := hcut
  have hr := HR.out.only ho (by omega) (by omega)
  have HO := hid_of ho
  have hE' := ho.cell hE (by simp only []; omega)
  have hF' : F.answers wc.tape := by rw [ho.tape]; exact hF
  obtain ⟨B', lb', ls', hB4', hrw', hBr', hB', hb2'⟩ := hb
  have hbg : Beg g bf wc := ⟨B', hB4', by omega, by simpa using hBr', hB'⟩
  rw [HLL.out] at hb2'
  rw [Nat.zero_add] at hb2'
  have cR := fun k => rl_fill F g eof s bf un L _ (wc.drewN k) hF' hE' hs HFIT.out hr hbg HLL.out hfull hb2'
  clear c0 c2 c3 f2 f3 ho hB' hBr' hr
  have c0 := hb2'.cell (i := 0) rfl
  have c1 := hb2'.cell (i := 1) rfl
  have c3 := hb2'.cell (i := 3) rfl
  have hL1 : (0 : Int) ≤ (L : Int) := by omega
  have hL2 : (L : Int) ≤ 4096 := by omega
  have hL3 : ¬ (4096 = L) := by omega
  have HCR := hid_of cR
  clear hb2' HR cR hrw' hE hE' hF hF'
  go_wp2_with fail
  go_quiet (fail)
  go_wp2_with fail
  go_loopg [2] 1 (fun f v2 wr => v2 = .int .i64 100 ∧ ∃ k, wr = wc.drewN k)
  case atStart => exact ⟨rfl, _, rfl⟩
  case round =>
    obtain ⟨rfl, kk, hw⟩ := hrel
    subst hw
    go_wp2_with fail
    go_region_held3 (fun w' => w'.cell? ⟨g + 2, 0, none⟩ = some (.slice (some ⟨g + 3, 0, none⟩) 4096 4096) ∧ w'.cell? ⟨g + 2, 1, none⟩ = some (.iface 42 (.pointer (some ⟨g + 1, 0, none⟩))) ∧ w'.cell? ⟨g + 2, 3, none⟩ = some (.int .i64 L))
      (first | go_keep | exact ⟨h2'.cell rfl, h2'.cell rfl, h2'.cell rfl⟩) ((go_at_call 21; go_fit (HCR.out _); rintro e w1 ⟨n, E, rfl, hLn, h2', ho', hfc⟩))
    have d3 := h2'.cell (i := 3) rfl
    have d4 := h2'.cell (i := 4) rfl
    have e3 := h2'.frozen 3
    have e4 := h2'.frozen 4
    have H2' := hid_of h2'
    have HOw : Hid (Only (own g) w w1) := ((HO.out.mono (fun k _ hk => by unfold own; omega)).drewN _).trans ho' (fun k _ hk => hk)
    have hsz : w.heap.size ≤ wc.heap.size := HO.out.size
    have hn0 : (0 : Int) ≤ (n : Int) := by omega
    clear h2' ho'
    rcases hfc with ⟨h1, h2, h3, h4, h5⟩ | ⟨rfl, ch, un', h1, h2, h3, h4, h5, h6⟩ | ⟨N, ch, un', rfl, h1, h2, h3, h7, h4, h5, h8, h6⟩
    · subst h2
      subst h3
      have K1 := hid_of h1
      have K4 := hid_of h4
      have K5 := hid_of h5
      clear h1 h4 h5
      obtain ⟨te, ve, rfl⟩ := heof
      go_wp2_with fail
      go_end0
      have ho1 : Only (fun k => k = g + 2) w1 ((w1.setCell ⟨g + 2, 3, none⟩ (.int .i64 L)).setCell ⟨g + 2, 4, none⟩ (.iface te ve)) := ((Only.refl (fun k => k = g + 2) _).setCell (.inl rfl) _).setCell (.inl rfl) _
      refine ⟨rfl, HOw.out.trans ho1 (fun k _ hk => by unfold own; omega), .inl ⟨K1.out, K4.out.only ho1 (by omega) (by omega), K5.out.buf (lb := lb') (ls := ls') HLL.out ho1 ?_⟩⟩
      exact (H2'.out.set 3 _).set' 4 _ (by simp [brC])
    · have K1 := hid_of h1
      have K2 := hid_of h2
      have K4 := hid_of h4
      have K5 := hid_of h5
      have K6 := hid_of h6
      have hn1 : (0 : Int) < (n : Int) := by omega
      clear h1 h2 h4 h5 h6
      go_wp2_with fail
      go_end0
      have ho1 : Only (fun k => k = g + 2) w1 (w1.setCell ⟨g + 2, 3, none⟩ (.int .i64 ((L : Int) + (n : Int)))) := (Only.refl (fun k => k = g + 2) _).setCell (.inl rfl) _
      refine ⟨rfl, HOw.out.trans ho1 (fun k _ hk => by unfold own; omega), .inr (.inl ⟨ch, un', K1.out, by rw [K2.out]; exact h3, K4.out.only ho1 (by omega) (by omega), K6.out.buf (lb := lb') (ls := ls') (n := L + n) (by rw [List.length_append, HLL.out, K2.out]) ho1 ?_, K5.out⟩)⟩
      exact H2'.out.set' 3 _ (by simp [brC])
    · have K1 := hid_of h1
      have K2 := hid_of h2
      have K4 := hid_of h4
      have K5 := hid_of h5
      have K6 := hid_of h6
      have K3 := hid_of h3
      have K7 := hid_of h7
      have K8 := hid_of h8
      clear h1 h2 h4 h5 h6 h3 h7 h8
      go_wp2_with fail
      go_end0
      have ho1 : Only (fun k => k = g + 2) w1 ((w1.setCell ⟨g + 2, 3, none⟩ (.int .i64 ((L : Int) + (n : Int)))).setCell ⟨g + 2, 4, none⟩ (.iface 99 (.pointer (some ⟨N, 0, none⟩)))) := ((Only.refl (fun k => k = g + 2) _).setCell (.inl rfl) _).setCell (.inl rfl) _
      refine ⟨rfl, HOw.out.trans ho1 (fun k _ hk => by unfold own; omega), .inr (.inr ⟨ch, un', N, K1.out, Nat.le_trans hsz K3.out, ho1.cells _ K7.out, K6.out.buf (lb := lb') (ls := ls') (n := L + n) (by rw [List.length_append, HLL.out, K2.out]) ho1 ?_, K4.out, K5.out, K8.out⟩)⟩
      exact (H2'.out.set 3 _).set' 4 _ (by simp [brC])
end Go.Proofs.Qxb6614395aFmt
