import Derived.Test.Qxb6614133aDoorRows
import Derived.Test.Qxb6614133aDoorTie
import Derived.Test.Qxb6614133aDoorCards
import Derived.Test.Qxb6614133aDoorW9
import Derived.ProofKit
import Derived.Lay
import Derived.LaidOnce
import Derived.SevenTiedAt
set_option linter.unusedSimpArgs false
set_option linter.unusedVariables false
namespace Go.Proofs.Qxb6614133aDoor
open Go Go.RowKit Go.ChangeShapes Go.WideShapes Go.ChangeAt Go.WideMaps Go.WideElems
open Go.ChangeMaps (open_string shut_string)

theorem len_of (x : ByteArray) (h : x.size ≤ maxLen) : x.data.toList.length ≤ 9223372036854775807 := by
  rw [Array.length_toList]
  exact h
theorem own : ownKnob Tryd.prog.godebug = none := by kernel_rfl

set_option maxRecDepth 100000 in
theorem lifted (os : Os) (started : os.Started) (H : Type) (enc : TypeId × Value → H) :
    ReturnsInHanded {} Tryd.checked os 3 .any (fun w args => (Rows.fnParametersStopsAndCarriesOnSpec.pre enc Tryd.prog Tryd.f3 [] false w args ∧ laidMetH Tryd.prog Rows.fnParametersStopsAndCarriesOnRow.laid w) ∧ sizedMet enc Tryd.prog Tryd.f3 (OpenSpec.ofChange Rows.fnParametersStopsAndCarriesOnSpec) false w args)
      (Rows.fnParametersStopsAndCarriesOnSpec.post enc Tryd.prog Tryd.f3 false true false false) := by
  refine returnsInHanded_of_change_and (C := Tryd.checked) (X := fun w _ => laidMetH Tryd.prog Rows.fnParametersStopsAndCarriesOnRow.laid w) (fun _ _ _ hh h => h.of_heap hh) own started (by kernel_rfl) Tryd.func3
    (ChangeSpec.witness_shaped (enc := enc) (C := Tryd.checked) (os := os) (X := fun w _ => laidMetH Tryd.prog Rows.fnParametersStopsAndCarriesOnRow.laid w) false (World.laidAll Tryd.prog os Rows.fnParametersStopsAndCarriesOnRow.laid) #[.string ⟨#[]⟩, .string ⟨#[]⟩] 8 (World.laidAll_os _ _ _)
      (World.shaped_of_ZipB (by kernel_rfl) (by kernel_rfl)) (by kernel_rfl) (by kernel_rfl) (by kernel_rfl)
      (by rw [MakeChecks.laidMetH_plain _ _ _ (by kernel_rfl)]; exact laidMet_laidAll _ (by kernel_rfl) (by kernel_rfl))) ?_
  intro W base args ds gs before hval0 hW _ _ hL _
  have hval : ∀ (j : Nat) t v, Tryd.f3.params[j]? = some t → args[j]? = some v → Value.okWide Tryd.prog W .any base t v := hval0
  have hW' := hW
  obtain ⟨p, q, hA0, hV, rfl, _, _⟩ := hW
  have hA : DataW.TrodAll enc Tryd.prog W 0 (fun _ => true) true Tryd.f3.params.toList args.toList ds p := hA0
  rw [Tryd.params3] at hA hval
  obtain ⟨v0, v1, d0, d1, p0, p1, rfl, rfl, rfl, h0, h1⟩ := trodAll_two hA
  obtain ⟨rfl, rfl⟩ := trodVars_none hV
  obtain ⟨x, rfl, rfl, rfl, hx⟩ := open_string Tryd.underlying9 (hval 0 9 v0 rfl rfl) h0
  obtain ⟨y, rfl, rfl, rfl, hy⟩ := open_string Tryd.underlying9 (hval 1 9 v1 rfl rfl) h1
  simp only [List.append_nil] at hW'
  have lx : x.data.toList.length ≤ 9223372036854775807 := len_of x hx
  have ly : y.data.toList.length ≤ 9223372036854775807 := len_of y hy
  have hlaw := law_calls x.data.toList y.data.toList W lx ly
  rw [← str_of, ← str_of] at hlaw
  refine hlaw.mono fun e W' ⟨he, hb⟩ => ?_
  subst he
  exact ⟨_, rfl, _, _, _, [], [], [], hW', trodAll_mk1 (shut_bool Tryd.underlying4 _), trodAll_mk2 (shut_string Tryd.underlying9 hx) (shut_string Tryd.underlying9 hy), rfl, hb.frame _, fun h => by cases h⟩

theorem row_holds : Rows.FnParametersStopsAndCarriesOnSaid :=
  OpenClaim.holds_of_wide 3 Tryd.f3 rfl rfl rfl rfl rfl rfl rfl ⟨rfl, rfl, rfl, rfl, rfl⟩ rfl rfl rfl rfl rfl (by kernel_rfl) Tryd.func3 (by kernel_rfl)
    (of_decide_eq_true (by kernel_rfl)) (by unfold Func.isWrapper; rw [if_neg (of_decide_eq_false (by kernel_rfl))]; exact ⟨rfl, rfl⟩)
    (fun os started H enc _ => lifted os started H enc)

theorem card_holds : Rows.FnParametersStopsAndCarriesOnCardSaid :=
  Claim7.holds_tied_plain_at .later [] [.data, .pinned] true Rows.fnParametersStopsAndCarriesOnCard.stood.harness false row_holds (fun _ h => by cases h) (by kernel_rfl) (fun _ h => by cases h) fnParametersStopsAndCarriesOn_row_tie rfl ⟨rfl, rfl⟩ (by kernel_rfl) rfl
    (fun f fn hf hfn => by
      obtain rfl : f = 3 := Option.some.inj ((show Tryd.prog.funcNamed Rows.fnParametersStopsAndCarriesOnRow.func = some 3 by kernel_rfl).symm.trans hf) |>.symm
      obtain rfl : fn = Tryd.f3 := (Option.some.inj (Tryd.func3.symm.trans hfn)).symm
      exact ⟨by kernel_rfl, fun j t ht => by
        rw [Tryd.params3] at ht
        have hm : t ∈ [9, 9] := by simpa using Array.mem_of_getElem? ht
        have hall : ([9, 9].all fun u => !Tryd.prog.wantsStandIn u) = true := by kernel_rfl
        exact (show Tryd.prog.wantsStandIn t = false by simpa using List.all_eq_true.1 hall t hm)⟩)
    (by kernel_rfl)

end Go.Proofs.Qxb6614133aDoor
