import Derived.Test.Qxb6614395aFmtW12
set_option linter.unusedSimpArgs false
set_option linter.unusedVariables false
namespace Go.Proofs.Qxb6614395aFmt
open Go Go.RowKit Go.Deep Go.Extern.Stop Go.Stop Go.Extern
attribute [local go_sem] str_size str_get str_extract str_toList str_append

theorem adv_le : ∀ (l : List UInt8) (s : Nat × Bool), (adv s l).1 ≤ s.1 + l.length
  | [], s => Nat.le_refl _
  | b :: t, s => by
    have h := adv_le t (st1 s b)
    have h1 : (st1 s b).1 ≤ s.1 + 1 := by
      unfold st1
      generalize (if b = 34 then !s.2 else s.2) = q
      by_cases e : b = 10 ∧ q = false
      · rw [if_pos e]; exact Nat.zero_le _
      · rw [if_neg e]; exact Nat.le_refl _
    show (adv (st1 s b) t).1 ≤ _
    simp only [List.length_cons]
    omega

/-- Peek's loop. -/
def PkI (g : Nat) (bE : Addr) (T bf un : List UInt8) (e : Value) (w wr : World) : Prop :=
  T = bf ++ un ∧ fits (0, false) bf ∧ Buf g 0 bf e wr ∧ Only (own g) w wr ∧ RunS g (adv (0, false) bf) un wr ∧ (e = .nilIface ∨ e = tripA bE ∧ un = [])

theorem PkI.drewN {g : Nat} {bE : Addr} {T bf un : List UInt8} {e : Value} {w wr : World} (h : PkI g bE T bf un e w wr) (n : Nat) : PkI g bE T bf un e w (wr.drewN n) := by
  obtain ⟨h1, h2, h3, h4, h5, h6⟩ := h
  exact ⟨h1, h2, h3, h4.drewN n, h5, h6⟩

/-- What Peek(3) gives. -/
def PkPost (g : Nat) (bE : Addr) (T : List UInt8) (w : World) (e : Ending) (w' : World) : Prop :=
  ∃ (n cap : Nat) (E : Value) (bf un : List UInt8) (e0 : Value), e = .returned (.tuple #[.slice (some ⟨g + 3, 0, none⟩) n cap, E]) ∧ n ≤ cap ∧ (T.take 3).length = n ∧ Seg w' (g + 3) 0 (T.take 3) ∧ PkI g bE T bf un e0 w w' ∧ n ≤ bf.length ∧ ((n = 3 ∧ E = .nilIface) ∨ (n < 3 ∧ E = tripA bE))

set_option maxHeartbeats 1600000 in
set_option maxRecDepth 20000 in
theorem peek_calls (F : Interp) (g : Nat) (bE bF : Addr) (T : List UInt8) (w : World) (hF : F.answers w.tape) (hS : Sent g bE bF w) (hsz : g + 6 ≤ w.heap.size) (hb : Buf g 0 [] .nilIface w) (hr : RunS g (0, false) T w) :
    Calls Tryf.prog 45 #[.pointer (some ⟨g + 2, 0, none⟩), .int .i64 3] w (PkPost g bE T w) := by
  have hg10 := hS.g10
  have HS := hid_of hS
  have HB := hid_of hb
  have HR := hid_of hr
  obtain ⟨B, lb, ls, hB4, hrw, hBr, hB, hb2⟩ := hb
  have f5 := hb2.frozen 5
  have f6 := hb2.frozen 6
  have c5 := hb2.cell (i := 5) rfl
  have c6 := hb2.cell (i := 6) rfl
  have hP0 : Hid (PkI g bE T [] T .nilIface w ((w.setCell ⟨g + 2, 5, none⟩ (.int .i64 (-1))).setCell ⟨g + 2, 6, none⟩ (.int .i64 (-1)))) := by
    have ho : Only (fun k => k = g + 2) w ((w.setCell ⟨g + 2, 5, none⟩ (.int .i64 (-1))).setCell ⟨g + 2, 6, none⟩ (.int .i64 (-1))) := ((Only.refl (fun k => k = g + 2) _).setCell (.inl rfl) _).setCell (.inl rfl) _
    exact ⟨rfl, trivial, HB.out.last _ _, ho.mono (fun k _ h => by unfold own; omega), HR.out.only ho (by omega) (by omega), .inl rfl⟩
  clear hB hb2 hr hS hBr
  go_enter Tryf.func45, Tryf.ntmps45
  go_upto_block 0 with fail
  go_cut [] from 17 to 53 (fun wr => ∃ bf un e, PkI g bE T bf un e w wr ∧ (3 ≤ bf.length ∨ e = tripA bE))
  case first =>
    go_wp2_with fail
    go_loopg [] (T.length + 2) (fun f wr => ∃ bf un e, Hid (PkI g bE T bf un e w wr) ∧ Hid (e = .nilIface → un.length + 2 ≤ f) ∧ 1 ≤ f)
    case atStart => exact ⟨[], T, .nilIface, hP0, fun _ => Nat.le_refl _, by omega⟩
    case round =>
      clear hP0 c5 c6 f5 f6 HB HR
      obtain ⟨bf, un, e, hpk, hfl, hf1⟩ := hrel
      obtain ⟨f, rfl⟩ : ∃ f, gk = f + 1 := ⟨gk - 1, by omega⟩
      obtain ⟨hT, hfit, hbuf, ho, hrun, he⟩ := hpk.out
      obtain ⟨L, hL⟩ : ∃ L, bf.length = L := ⟨_, rfl⟩
      have HLL := hid_of hL
      have hSr : Sent g bE bF wr := HS.out.only ho (fun k hk h => by unfold own at h; omega)
      have cF : e = .nilIface → L < 4096 → ∀ m, Calls Tryf.prog 65 #[.pointer (some ⟨g + 2, 0, none⟩)] (wr.drewN m) (FillPost g (tripA bE) (0, false) bf un (wr.drewN m)) := fun he' hl m => by
        subst he'
        exact fill_calls F g (tripA bE) (0, false) bf un 0 (wr.drewN m) (by show F.answers wr.tape; rw [ho.tape]; exact hF) hSr.e (by omega) ⟨_, _, rfl⟩ (by simp) hfit hrun hbuf (by omega)
      obtain ⟨B, lb, ls, hB4, hrw, hBr, hB, hb2⟩ := hbuf
      rw [Nat.zero_add, hL] at hb2 hrw
      have c0 := hb2.cell (i := 0) rfl
      have c2 := hb2.cell (i := 2) rfl
      have c3 := hb2.cell (i := 3) rfl
      have c4 := hb2.cell (i := 4) rfl
      have HCF := hid_of cF
      have HO := hid_of ho
      have HT := hid_of hT
      have HHE := hid_of he
      clear hB hb2 hBr ho hT hfit hrun cF hSr hL
      by_cases h3 : 3 ≤ L
      · have hg1 : ((L : Int) < 3) = False := by simp; omega
        have hg2 : decide ((L : Int) < 3) = false := by simp; omega
        clear he
        go_wp2_with fail
        go_quiet (fail)
        go_wp2_with fail
        go_meet
        exact ⟨bf, un, e, hpk.out.drewN _, .inl (by rw [HLL.out]; exact h3)⟩
      · have hg1 : (L : Int) < 3 := by omega
        have hg2 : (L : Int) < 4096 := by omega
        rcases HHE.out with rfl | ⟨rfl, hun⟩
        · have hfl2 : un.length + 2 ≤ f + 1 := hfl.out rfl
          have cF := HCF.out rfl (by omega)
          clear he hfl
          go_wp2_with fail
          go_quiet (fail)
          go_wp2_with (go_at_call 65; go_fit (cF _); rintro e w3 ⟨rfl, hof, hcs⟩)
          have hO3 : Only (own g) w w3 := (HO.out.drewN _).trans hof (fun _ _ h => h)
          obtain ⟨-, hfit, -⟩ := hpk.out
          rcases hcs with ⟨h1, h2, h3⟩ | ⟨ch, un', h1, h2, h3, h4, h5⟩ | ⟨ch, un', N, h1, h2, h6, h3, h4, h5, h7⟩
          · go_roundg f
            case measure => omega
            case rel => exact ⟨bf, [], tripA bE, ⟨by rw [HT.out, h1], hfit, h3, hO3, h2, .inr ⟨rfl, rfl⟩⟩, (fun h => by unfold tripA at h; cases h), by omega⟩
          · go_roundg f
            case measure => omega
            case rel =>
              refine ⟨bf ++ ch, un', .nilIface, ⟨by rw [HT.out, h1, List.append_assoc], h5, h4, hO3, h3, .inl rfl⟩, fun _ => ?_, by omega⟩
              rw [h1, List.length_append] at hfl2
              omega
          · exfalso
            have h8 := adv_le (bf ++ ch) (0, false)
            obtain ⟨B', _, _, _, h9, _⟩ := h3
            simp only [] at h8
            omega
        · simp only [tripE, tripA] at c4
          clear he hfl
          go_wp2_with fail
          go_quiet (fail)
          go_wp2_with fail
          go_meet
          exact ⟨bf, un, _, hpk.out.drewN _, .inr rfl⟩
  case rest =>
  clear hP0 c5 c6 f5 f6 HB HR
  obtain ⟨bf, un, e, hpk, hor⟩ := hcut
  have HPK := hid_of hpk
  obtain ⟨hT, hfit, hbuf, ho, hrun, he⟩ := hpk
  have HBUF := hid_of hbuf
  obtain ⟨L, hL⟩ : ∃ L, bf.length = L := ⟨_, rfl⟩
  obtain ⟨B, lb, ls, hB4, hrw, hBr, hB, hb2⟩ := hbuf
  have hseg0 : Seg wc (g + 3) 0 bf := by
    have := Seg.of_sat (o := 0) hB bf.length
    rwa [hBr] at this
  rw [Nat.zero_add, hL] at hb2 hrw
  have c0 := hb2.cell (i := 0) rfl
  have c2 := hb2.cell (i := 2) rfl
  have c3 := hb2.cell (i := 3) rfl
  have c4 := hb2.cell (i := 4) rfl
  have H2 := hid_of hb2
  have HL := hid_of hL
  have HT := hid_of hT
  have HSEG := hid_of hseg0
  have HO := hid_of ho
  have HRUN := hid_of hrun
  have HFIT := hid_of hfit
  have HHE := hid_of he
  clear hB hb2 hBr hT hseg0 ho hrun hfit he
  by_cases h3 : 3 ≤ L
  · have hg1 : (3 : Int) ≤ (L : Int) := by omega
    clear hor hL
    go_wp2_with fail
    go_quiet (fail)
    go_wp2_with fail
    go_quiet (fail)
    go_wp2_with fail
    go_ret2
    have htk : T.take 3 = bf.take 3 := by rw [HT.out, List.take_append_of_le_length (by rw [HL.out]; exact h3)]
    refine ⟨3, _, _, bf, un, e, rfl, by omega, ?_, ?_, (HPK.out.drewN _).drewN _, by rw [HL.out]; exact h3, .inl ⟨rfl, rfl⟩⟩
    · rw [htk, List.length_take, HL.out]; omega
    · rw [htk]; exact HSEG.out.take 3
  · have hE : e = tripA bE := hor.resolve_left (by rw [hL]; exact h3)
    subst hE
    have hun : un = [] := by
      rcases HHE.out with h | h
      · cases h
      · exact h.2
    have hg1 : (L : Int) < 3 := by omega
    have hre := fun m => readErr_calls g 0 L (tripA bE) lb ls (wc.drewN m) (H2.out.drewN m)
    simp only [tripE, tripA] at c4 hre
    clear hor hL
    go_wp2_with fail
    go_quiet (fail)
    go_wp2_with (go_at_call 66; go_fit (hre _); rintro e w3 ⟨rfl, rfl⟩)
    go_quiet (fail)
    go_wp2_with fail
    go_ret2
    have hTb : T = bf := by rw [HT.out, hun, List.append_nil]
    have htk : T.take 3 = bf := by rw [hTb, List.take_of_length_le (by rw [HL.out]; omega)]
    have hW : ∀ m, Only (fun k => k = g + 2) wc ((wc.drewN m).setCell ⟨g + 2, 4, none⟩ .nilIface) := fun m => ((Only.refl (fun k => k = g + 2) _).drewN m).setCell (.inl rfl) _
    refine ⟨L, _, _, bf, un, .nilIface, rfl, by omega, ?_, ?_, ?_, by rw [HL.out]; exact Nat.le_refl _, .inr ⟨by omega, rfl⟩⟩
    · rw [htk]; exact HL.out
    · rw [htk]; exact HSEG.out.of_block ((hW _).block _ (by
        obtain ⟨B', _, _, _, _, _, h4, _⟩ := HBUF.out
        exact h4.lt) (by omega))
    · refine PkI.drewN ⟨HT.out, HFIT.out, ?_, (HO.out.trans (hW _) (fun k _ hk => by unfold own; omega)), HRUN.out.only (hW _) (by omega) (by omega), .inl rfl⟩ _
      exact (show Buf g 0 bf (tripA bE) (wc.drewN _) from HBUF.out).clear
end Go.Proofs.Qxb6614395aFmt
