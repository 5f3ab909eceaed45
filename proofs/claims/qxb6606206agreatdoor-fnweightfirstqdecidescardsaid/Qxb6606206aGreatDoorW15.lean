import Derived.Test.Qxb6606206aGreatDoorW14
set_option linter.unusedSimpArgs false
set_option linter.unusedVariables false
namespace Go.Proofs.Qxb6606206aGreatDoor
open Go Go.RowKit
theorem shlv_1 : shlv .u64 1 52 = 4503599627370496 := by decide
theorem shlv_2 : shlv .u64 2 52 = 9007199254740992 := by decide
attribute [local go_sem high] shl_u64_52
attribute [local go_sem] shlv_1 shlv_2

theorem LCT.drewN {w : World} {blk o cap : Nat} (h : LCT w blk o cap) (n : Nat) : LCT (w.drewN n) blk o cap := ⟨fun k a b => ⟨(h.row k a b).c15, (h.row k a b).cd, (h.row k a b).cc⟩⟩
/-- The tables that floatBits reads. -/
structure FT (w : World) (B pb po pc blk o cap : Nat) : Prop where
  i0 : w.cell? ⟨10, 0, none⟩ = some (.int .u64 52)
  i1 : w.cell? ⟨10, 1, none⟩ = some (.int .u64 11)
  i2 : w.cell? ⟨10, 2, none⟩ = some (.int .i64 (-1023))
  p : w.cell? ⟨12, 0, none⟩ = some (.slice (some ⟨pb, po, none⟩) 9 pc)
  prow : ∀ i, i < 9 → w.cell? ⟨pb, po + i, none⟩ = some (.int .i64 (pw i))
  lc : LCT w blk o cap
  b1 : pb < B
  b2 : blk < B
  b3 : 15 < B
theorem FT.below {w w' : World} {B pb po pc blk o cap : Nat} (h : FT w B pb po pc blk o cap) (hb : Below B w w') : FT w' B pb po pc blk o cap :=
  have h3 := h.b3
  ⟨(hb.cell (p := ⟨10, 0, none⟩) (by show 10 < B; omega)).trans h.i0, (hb.cell (p := ⟨10, 1, none⟩) (by show 10 < B; omega)).trans h.i1, (hb.cell (p := ⟨10, 2, none⟩) (by show 10 < B; omega)).trans h.i2, (hb.cell (p := ⟨12, 0, none⟩) (by show 12 < B; omega)).trans h.p, fun i hi => (hb.cell (p := ⟨pb, po + i, none⟩) h.b1).trans (h.prow i hi), h.lc.below hb h.b2 h.b3, h.b1, h.b2, h.b3⟩

/-- The bits put together. -/
def finB (mant exp : Int) (neg : Bool) : Int :=
  let b := bits .or .u64 (bits .and .u64 mant 4503599627370495) (shlv .u64 (IntKind.u64.wrap (bits .and .i64 (exp + 1023) 2047)) 52)
  if neg then bits .or .u64 b 9223372036854775808 else b

def FBP (B : Nat) (w : World) (r : Int × Bool) (e : Ending) (w' : World) : Prop := e = .returned (.tuple #[.int .u64 r.1, .bool r.2]) ∧ Below B w w'

set_option maxHeartbeats 12800000 in
set_option maxRecDepth 20000 in
theorem fb_zero (g B pb po pc blk o cap : Nat) (hB : B ≤ g) (s : Dc) (hs : s.Ok) (h0 : s.nd = 0) (w : World) (h : DAt w g s) (hF : FT w B pb po pc blk o cap) :
    Calls Tryz.prog 79 #[.pointer (some ⟨g, 0, none⟩), .pointer (some ⟨10, 0, none⟩)] w (FBP B w (finB 0 (-1023) s.neg, false)) := by
  have c0 := h.nd
  have c2 := h.neg
  have i0 := hF.i0
  have i1 := hF.i1
  have i2 := hF.i2
  rw [h0] at c0
  clear h hF
  go_enter Tryz.func79, Tryz.ntmps79
  go_wp2_with fail
  refine wp_scope_two rfl rfl ?_
  go_wp2_with fail
  go_step3
  simp only [Exit.then, Exit.go2]
  refine .inl ⟨by trivial, ?_⟩
  cases hn : s.neg with
  | true =>
    rw [hn] at c2
    go_wp2_with fail
    go_quiet (fail)
    go_wp2_with fail
    go_quiet (fail)
    go_wp2_with fail
    simp only [Exit.noGoto_ret]
    go_ret2
    exact ⟨rfl, below_drewN (below_drewN (Below.refl _ _) _) _⟩
  | false =>
    rw [hn] at c2
    go_wp2_with fail
    go_quiet (fail)
    go_wp2_with fail
    simp only [Exit.noGoto_ret]
    go_ret2
    exact ⟨rfl, below_drewN (Below.refl _ _) _⟩





theorem pw_at (i : Nat) (h : 9 ≤ i) : (pw i : Int) = 27 := by rw [pw_big h]; rfl

/-- What RoundedInteger gives. -/
noncomputable def riF (s : Dc) : Int := open Classical in if h : s.Ok ∧ -1000000000 ≤ s.dp then Classical.choose (ri_gives s h.1 h.2) else 0
theorem riF_gives (s : Dc) (h1 : s.Ok) (h2 : -1000000000 ≤ s.dp) : 0 ≤ riF s ∧ riF s ≤ 18446744073709551615 ∧ RInt s (riF s) := by
  unfold riF
  rw [dif_pos ⟨h1, h2⟩]
  exact Classical.choose_spec (ri_gives s h1 h2)

noncomputable def fbO (m e : Int) (neg : Bool) : Int × Bool := if (bits .and .u64 m 4503599627370496 == 0) = true then (finB m (-1023) neg, false) else (finB m e neg, false)
noncomputable def fbM (s : Dc) (e : Int) : Int × Bool :=
  if e ≥ 1024 then (finB 0 1024 s.neg, true)
  else if riF (s.lsh 53) = 9007199254740992 then (if e + 1 ≥ 1024 then (finB 0 1024 (s.lsh 53).neg, true) else fbO 4503599627370496 (e + 1) (s.lsh 53).neg)
  else fbO (riF (s.lsh 53)) e (s.lsh 53).neg
noncomputable def fbT (s : Dc) (e : Int) : Int × Bool :=
  if e < -1022 then fbM (Dc.shR (-1022 - e).toNat s (-1022 - e).toNat) (-1022) else fbM s e
noncomputable def fbR (s : Dc) : Int × Bool :=
  if s.nd = 0 then (finB 0 (-1023) s.neg, false)
  else if s.dp > 310 then (finB 0 1024 s.neg, true)
  else if s.dp < -330 then (finB 0 (-1023) s.neg, false)
  else fbT (fb2 10100 (fb1 1000 s 0).1 (fb1 1000 s 0).2).1 ((fb2 10100 (fb1 1000 s 0).1 (fb1 1000 s 0).2).2 - 1)

set_option maxHeartbeats 12800000 in
set_option maxRecDepth 20000 in
theorem fb_small (g B pb po pc blk o cap : Nat) (hB : B ≤ g) (sE : Dc) (h1 : 0 < sE.nd) (hd : sE.dp < -330) (w : World) (h : DAt w g sE) (hF : FT w B pb po pc blk o cap) :
    Calls Tryz.prog 79 #[.pointer (some ⟨g, 0, none⟩), .pointer (some ⟨10, 0, none⟩)] w (FBP B w (fbR sE)) := by
  have HR : Hid ((finB 0 (-1023) sE.neg, false) = fbR sE) := by
    show _ = _
    rw [fbR, if_neg (by omega), if_neg (by omega), if_pos hd]
  obtain ⟨R, hR⟩ : ∃ R, fbR sE = R := ⟨_, rfl⟩
  rw [hR] at HR
  rw [hR]
  have c0 := h.nd
  have c1 := h.dp
  have cN := h.neg
  have i0 := hF.i0
  have i1 := hF.i1
  have i2 := hF.i2
  have hn0 : ((sE.nd : Int) == 0) = false := by rw [beq_eq_false_iff_ne]; omega
  clear h hF hR
  go_enter Tryz.func79, Tryz.ntmps79
  go_wp2_with fail
  refine wp_scope_two rfl rfl ?_
  go_wp2_with fail
  go_step3
  simp only [Exit.then, Exit.go2]
  refine .inl ⟨by trivial, ?_⟩
  cases hn : sE.neg with
  | true =>
    rw [hn] at cN
    rw [hn] at HR
    go_wp2_with fail
    go_quiet (fail)
    go_wp2_with fail
    go_quiet (fail)
    go_wp2_with fail
    simp only [Exit.noGoto_ret]
    go_ret2
    rw [← HR.out]
    exact ⟨rfl, by repeat (first | exact Below.refl _ _ | refine below_drewN ?_ _)⟩
  | false =>
    rw [hn] at cN
    rw [hn] at HR
    go_wp2_with fail
    go_quiet (fail)
    go_wp2_with fail
    simp only [Exit.noGoto_ret]
    go_ret2
    rw [← HR.out]
    exact ⟨rfl, by repeat (first | exact Below.refl _ _ | refine below_drewN ?_ _)⟩

set_option maxHeartbeats 12800000 in
set_option maxRecDepth 20000 in
theorem fb_big (g B pb po pc blk o cap : Nat) (hB : B ≤ g) (sE : Dc) (h1 : 0 < sE.nd) (hd : sE.dp > 310) (w : World) (h : DAt w g sE) (hF : FT w B pb po pc blk o cap) :
    Calls Tryz.prog 79 #[.pointer (some ⟨g, 0, none⟩), .pointer (some ⟨10, 0, none⟩)] w (FBP B w (fbR sE)) := by
  have HR : Hid ((finB 0 1024 sE.neg, true) = fbR sE) := by
    show _ = _
    rw [fbR, if_neg (by omega), if_pos hd]
  obtain ⟨R, hR⟩ : ∃ R, fbR sE = R := ⟨_, rfl⟩
  rw [hR] at HR
  rw [hR]
  have c0 := h.nd
  have c1 := h.dp
  have cN := h.neg
  have i0 := hF.i0
  have i1 := hF.i1
  have i2 := hF.i2
  have hn0 : ((sE.nd : Int) == 0) = false := by rw [beq_eq_false_iff_ne]; omega
  clear h hF hR
  go_enter Tryz.func79, Tryz.ntmps79
  go_wp2_with fail
  refine wp_scope_two rfl rfl ?_
  go_wp2_with fail
  go_step3
  simp only [Exit.then, Exit.go2]
  refine .inr ⟨by trivial, ?_⟩
  go_wp2_with fail
  go_quiet (fail)
  go_wp2_with fail
  go_step3
  cases hn : sE.neg with
  | true =>
    rw [hn] at cN
    rw [hn] at HR
    go_wp2_with fail
    go_quiet (fail)
    go_wp2_with fail
    go_quiet (fail)
    go_wp2_with fail
    simp only [Exit.noGoto_ret]
    go_ret2
    rw [← HR.out]
    exact ⟨rfl, by repeat (first | exact Below.refl _ _ | refine below_drewN ?_ _)⟩
  | false =>
    rw [hn] at cN
    rw [hn] at HR
    go_wp2_with fail
    go_quiet (fail)
    go_wp2_with fail
    simp only [Exit.noGoto_ret]
    go_ret2
    rw [← HR.out]
    exact ⟨rfl, by repeat (first | exact Below.refl _ _ | refine below_drewN ?_ _)⟩
end Go.Proofs.Qxb6606206aGreatDoor
