import Derived.Test.Qxb6609089aDoorRows
import Derived.Test.Qxb6609089aDoorTie
import Derived.Test.Qxb6609089aDoorCards
import Derived.Test.Qxb6609089aDoorT1
import Derived.ProofKit
import Derived.OpenShut
import Derived.ChangeOld
import Derived.Lay
import Derived.LaidOnce
import Derived.SevenTiedAt
set_option linter.unusedSimpArgs false
set_option linter.unusedVariables false
namespace Go.Proofs.Qxb6609089aDoor.Ready
open Go Go.ChangeShapes Go.WideShapes Go.ChangeAt Go.RowKit

theorem own : ownKnob Tryd.prog.godebug = none := by kernel_rfl
theorem laidOut : laidOutB Tryd.prog = true := by kernel_rfl

/-- A slice of bytes that came in: nil; or a row of 'cap' cells, the numbers zs. -/
def IsRow (w : World) (a : Option Addr) (len cap : Nat) (zs : List Int) : Prop :=
  (a = none ∧ len = 0 ∧ cap = 0 ∧ zs = []) ∨
  ∃ x, a = some x ∧ len ≤ cap ∧ cap ≤ maxLen ∧ zs.length = cap ∧ (∀ i, i < zs.length → w.cell? (x.add i) = some (.int .u8 (zs.getD i 0))) ∧ ∀ n ∈ zs, (Lit.int .u8 n).wf = true

theorem byte_of (n : Int) (h : (Lit.int .u8 n).wf = true) : ((UInt8.ofNat n.toNat).toNat : Int) = n := by
  have hx : 0 ≤ n ∧ n ≤ 255 := by simpa [Lit.wf, IntKind.min, IntKind.max, IntKind.signed, IntKind.bits] using h
  rw [UInt8.toNat_ofNat']
  omega

/-- The elements as a list of bytes. -/
theorem list_of {w : World} {a : Option Addr} {len cap : Nat} {zs : List Int} (h : IsRow w a len cap zs) :
    ∃ l : List UInt8, l.length = len ∧ (a = none → l = []) ∧ (0 < l.length → ∃ ab ao, a = some ⟨ab, ao, none⟩ ∧ BAt w ab ao l) := by
  rcases h with ⟨rfl, rfl, rfl, rfl⟩ | ⟨x, rfl, hlc, hm, hz, hcell, hwf⟩
  · exact ⟨[], rfl, fun _ => rfl, fun h => by simp at h⟩
  · have hlen : (Lib.bytesOf (zs.take len)).length = len := by rw [Lib.bytesOf_length, List.length_take]; omega
    refine ⟨Lib.bytesOf (zs.take len), hlen, (fun h => by cases h), fun h0 => ?_⟩
    rw [hlen] at h0
    obtain ⟨ab, ao, asp⟩ := x
    have hsp : asp = none := by
      have := World.cell?_spot (hcell 0 (by omega))
      simpa [Addr.add] using this
    subst hsp
    refine ⟨ab, ao, rfl, fun i hi => ?_⟩
    rw [hlen] at hi
    have h1 := hcell i (by omega)
    rw [add_plain] at h1
    rw [h1]
    have hmem : zs.getD i 0 ∈ zs := by
      rw [List.getD_eq_getElem?_getD, List.getElem?_eq_getElem (by omega)]
      exact List.getElem_mem _
    have e : (Lib.bytesOf (zs.take len)).getD i 0 = UInt8.ofNat (zs.getD i 0).toNat := by
      have hi2 : i < zs.length := by omega
      simp [Lib.bytesOf, List.getD_eq_getElem?_getD, List.getElem?_take, hi, List.getElem?_eq_getElem hi2]
    rw [e, byte_of _ (hwf _ hmem)]

theorem walk (a0 : Option Addr) (len0 cap0 : Nat) (z0 : List Int) (st en k : Int) (eof : Bool) (w : World) (w0 : IsRow w a0 len0 cap0 z0) (t : TypeId) (x : Value) (hE : Eof w t x) (hT : Tabs w) :
    Calls Tryd.prog 5 #[.slice a0 len0 cap0, .int .i64 st, .int .i64 en, .int .i64 k, .bool eof] w (LawPost w) := by
  obtain ⟨l, rfl, hp, hA⟩ := list_of w0
  by_cases hn : 1048576 < l.length
  · exact rd_big a0 l.length cap0 st en k eof w hn
  · have hl : l.length ≤ 1048576 := by omega
    by_cases hr : 0 ≤ st ∧ st ≤ k ∧ k ≤ en ∧ en ≤ l.length
    · obtain ⟨h1, h2, h3, h4⟩ := hr
      obtain ⟨s, rfl⟩ := Int.eq_ofNat_of_zero_le h1
      obtain ⟨m, rfl⟩ := Int.eq_ofNat_of_zero_le (show 0 ≤ k by omega)
      obtain ⟨e, rfl⟩ := Int.eq_ofNat_of_zero_le (show 0 ≤ en by omega)
      have cC := clone_calls a0 cap0 l w hl hp hA
      by_cases hks : m = s
      · exact rd_same a0 cap0 l s e m eof t x w hl cC (by omega) (by omega) (by omega) hks hE hT
      · obtain ⟨ab, ao, rfl, hB⟩ := hA (by omega)
        by_cases h10 : l.getD (m - 1) 0 = 10
        · exact rd_line ab ao cap0 l s e m eof t x w hl cC (by omega) (by omega) (by omega) hks hB h10 hE hT
        · refine rd_mid ab ao l.length cap0 s e m _ eof w hl (by omega) (by omega) (by omega) hks (hB (m - 1) (by omega)) ?_
          rw [bne, beq_u8 _ 10 10 rfl]
          simpa using h10
    · exact rd_out a0 l.length cap0 st en k eof w hl hr

set_option maxRecDepth 100000 in
theorem lifted (os : Os) (started : os.Started) (H : Type) (enc : TypeId × Value → H) :
    ReturnsInHanded {} Tryd.checked os 5 .any (fun w args => (Rows.fnReadyAtALineBoundarySpec.pre enc Tryd.prog Tryd.f5 [] false w args ∧ laidMetH Tryd.prog Rows.fnReadyAtALineBoundaryRow.laid w) ∧ sizedMet enc Tryd.prog Tryd.f5 (OpenSpec.ofChange Rows.fnReadyAtALineBoundarySpec) false w args)
      (Rows.fnReadyAtALineBoundarySpec.post enc Tryd.prog Tryd.f5 false true false false) := by
  refine returnsInHanded_of_change_and (C := Tryd.checked) (X := fun w _ => laidMetH Tryd.prog Rows.fnReadyAtALineBoundaryRow.laid w) (fun _ _ _ hh h => h.of_heap hh) own started (by kernel_rfl) Tryd.func5
    (ChangeSpec.witness_shaped (enc := enc) (C := Tryd.checked) (os := os) (X := fun w _ => laidMetH Tryd.prog Rows.fnReadyAtALineBoundaryRow.laid w) false (World.laidAll Tryd.prog os Rows.fnReadyAtALineBoundaryRow.laid) #[.slice none 0 0, .int .i64 0, .int .i64 0, .int .i64 0, .bool false] 8 (World.laidAll_os _ _ _)
      (World.shaped_of_ZipB (by kernel_rfl) (by kernel_rfl)) (by kernel_rfl) (by kernel_rfl) (by kernel_rfl)
      (by rw [MakeChecks.laidMetH_plain _ _ _ (by kernel_rfl)]; exact laidMet_laidAll _ (by kernel_rfl) (by kernel_rfl))) ?_
  intro W base args ds gs before hval0 hW _ _ hL _
  have hval : ∀ (j : Nat) t v, Tryd.f5.params[j]? = some t → args[j]? = some v → Value.okWide Tryd.prog W .any base t v := hval0
  have hW' := hW
  obtain ⟨p, q, hA0, hV, rfl, hfz, hnd⟩ := hW
  have hA : DataW.TrodAll enc Tryd.prog W 0 (fun _ => true) true Tryd.f5.params.toList args.toList ds p := hA0
  rw [Tryd.params5] at hA hval
  obtain ⟨v0, vs0, d0, ds0, p0, q0, hargs, rfl, rfl, h0, r0⟩ := trodAll_cons hA
  obtain ⟨v1, vs1, d1, ds1, p1, q1, rfl, rfl, rfl, h1, r1⟩ := trodAll_cons r0
  obtain ⟨v2, vs2, d2, ds2, p2, q2, rfl, rfl, rfl, h2, r2⟩ := trodAll_cons r1
  obtain ⟨v3, vs3, d3, ds3, p3, q3, rfl, rfl, rfl, h3, r3⟩ := trodAll_cons r2
  obtain ⟨v4, vs4, d4, ds4, p4, q4, rfl, rfl, rfl, h4, r4⟩ := trodAll_cons r3
  obtain ⟨rfl, rfl, rfl⟩ := trodAll_nil r4
  obtain rfl : args = #[v0, v1, v2, v3, v4] := by cases args; simp_all
  obtain ⟨rfl, rfl⟩ := trodVars_none hV
  obtain ⟨a0, len0, cap0, rfl⟩ := okWide_slice Tryd.underlying30 (hval 0 30 v0 rfl rfl)
  have k0 := h0
  have lt0 : ∀ x ∈ p0, x.block < W.heap.size := by obtain ⟨m, hm⟩ := k0; exact DataW.trod_lt m _ _ _ hm
  obtain ⟨z0, w0⟩ : ∃ zs, IsRow W a0 len0 cap0 zs := by
    obtain ⟨fuel, hf⟩ := h0
    rcases open_ints Tryd.underlying30 Tryd.underlying5 (by kernel_rfl) hf with ⟨hcs, _⟩ | ⟨x, l, c, zs, hcs, _, hl, hm, hz, _, hcell, hwz⟩
    · simp [Value.cells] at hcs
      obtain ⟨rfl, rfl, rfl⟩ := hcs
      exact ⟨[], .inl ⟨rfl, rfl, rfl, rfl⟩⟩
    · simp [Value.cells] at hcs
      obtain ⟨rfl, rfl, rfl⟩ := hcs
      exact ⟨zs, .inr ⟨_, rfl, hl, hm, by simpa using hz, hcell, hwz⟩⟩
  obtain ⟨a1, rfl, rfl, rfl, w1⟩ := open_int Tryd.underlying3 (hval 1 3 v1 rfl rfl) h1
  obtain ⟨a2, rfl, rfl, rfl, w2⟩ := open_int Tryd.underlying3 (hval 2 3 v2 rfl rfl) h2
  obtain ⟨a3, rfl, rfl, rfl, w3⟩ := open_int Tryd.underlying3 (hval 3 3 v3 rfl rfl) h3
  obtain ⟨a4, rfl, rfl, rfl⟩ := open_bool Tryd.underlying4 (hval 4 4 v4 rfl rfl) h4
  clear hA0 hval0
  rw [MakeChecks.laidMetH_plain _ _ _ (by kernel_rfl)] at hL
  obtain ⟨hT, t, x, hE⟩ := laid_ready hL
  refine (walk a0 len0 cap0 z0 a1 a2 a3 a4 W w0 t x hE hT).mono fun e W' ⟨he, bel⟩ => ?_
  subst he
  exact ⟨_, rfl, _, _, _, [], _, [], hW', trodAll_mk1 (shut_bool Tryd.underlying4 _), (trodAll_cons_mk (Below.trod laidOut (by kernel_rfl) (of_decide_eq_true (by kernel_rfl)) k0 bel lt0) (trodAll_cons_mk (shut_int Tryd.underlying3 w1) (trodAll_cons_mk (shut_int Tryd.underlying3 w2) (trodAll_cons_mk (shut_int Tryd.underlying3 w3) (trodAll_cons_mk (shut_bool Tryd.underlying4 _) trodAll_mk0))))), rfl, bel.frame _, fun h => by cases h⟩

theorem row_holds : Rows.FnReadyAtALineBoundarySaid :=
  OpenClaim.holds_of_wide 5 Tryd.f5 rfl rfl rfl rfl rfl rfl rfl ⟨rfl, rfl, rfl, rfl, rfl⟩ rfl rfl rfl rfl rfl (by kernel_rfl) Tryd.func5 (by kernel_rfl)
    (of_decide_eq_true (by kernel_rfl)) (by unfold Func.isWrapper; rw [if_neg (of_decide_eq_false (by kernel_rfl))]; exact ⟨rfl, rfl⟩)
    (fun os started H enc _ => lifted os started H enc)

theorem card_holds : Rows.FnReadyAtALineBoundaryCardSaid :=
  Claim7.holds_tied_plain_at .later [] [.data, .sentinel, .listed, .pinned] true Rows.fnReadyAtALineBoundaryCard.stood.harness false row_holds (fun _ h => by cases h) (by kernel_rfl) (fun _ h => by cases h) fnReadyAtALineBoundary_row_tie rfl ⟨rfl, rfl⟩ (by kernel_rfl) rfl
    (fun f fn hf hfn => by
      obtain rfl : f = 5 := Option.some.inj ((show Tryd.prog.funcNamed Rows.fnReadyAtALineBoundaryRow.func = some 5 by kernel_rfl).symm.trans hf) |>.symm
      obtain rfl : fn = Tryd.f5 := (Option.some.inj (Tryd.func5.symm.trans hfn)).symm
      exact ⟨by kernel_rfl, fun j t ht => by
        rw [Tryd.params5] at ht
        have hm : t ∈ [30, 3, 3, 3, 4] := by simpa using Array.mem_of_getElem? ht
        have hall : ([30, 3, 3, 3, 4].all fun u => !Tryd.prog.wantsStandIn u) = true := by kernel_rfl
        exact (show Tryd.prog.wantsStandIn t = false by simpa using List.all_eq_true.1 hall t hm)⟩)
    (by kernel_rfl)

end Go.Proofs.Qxb6609089aDoor.Ready
namespace Go.Proofs.Qxb6609089aDoor
theorem ready_card : Rows.FnReadyAtALineBoundaryCardSaid := Ready.card_holds
end Go.Proofs.Qxb6609089aDoor
