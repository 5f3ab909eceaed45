import Derived.Test.Qxb6609089aDoorW21
import Derived.Test.Qxb6609089aDoorW22
import Derived.Lib.IndexLaws
set_option linter.unusedSimpArgs false
set_option linter.unusedVariables false
namespace Go.Proofs.Qxb6609089aDoor
open Go Go.RowKit
attribute [local go_sem] str_size str_get str_extract str_toList str_append str_data

/-- A text in double quotes. -/
theorem uq_34 (E : Nat) (l : List UInt8) (w : World) (t : TypeId) (x : Value) (hl : l.length + 1 ≤ 1000000000) (hE : E < l.length) (hi : Lib.indexByte l 34 = E) (hS : Syn w t x) (hU : Lib.Utf8Tabs 3 4 w) :
    Calls Tryd.prog 21 #[.string (str (34 :: l)), .bool true] w (UQPost t x w (34 :: l) (if Uq.fast 34 E l then some (str (l.take E), l.drop (E + 1)) else (Uq.uloop 34 (l.length + 1) l []).map fun p => (strOfNums p.1, p.2))) := by
  cases g92 : (Lib.indexByte ((34 :: l).take (E + 2)) 92 != -1) with
  | true => exact uq_34a E l w t x hl hE hi g92 hS hU
  | false =>
    cases g10 : (Lib.indexByte ((34 :: l).take (E + 2)) 10 != -1) with
    | true => exact uq_34b E l w t x hl hE hi g92 g10 hS hU
    | false => exact uq_34c E l w t x hl hE hi g92 g10 hS hU
/-- A text in single quotes. -/
theorem uq_39 (E : Nat) (l : List UInt8) (w : World) (t : TypeId) (x : Value) (hl : l.length + 1 ≤ 1000000000) (hE : E < l.length) (hi : Lib.indexByte l 39 = E) (hS : Syn w t x) (hU : Lib.Utf8Tabs 3 4 w) :
    Calls Tryd.prog 21 #[.string (str (39 :: l)), .bool true] w (UQPost t x w (39 :: l) (if Uq.fast 39 E l then some (str (l.take E), l.drop (E + 1)) else (Uq.uloop 39 (l.length + 1) l []).map fun p => (strOfNums p.1, p.2))) := by
  cases g92 : (Lib.indexByte ((39 :: l).take (E + 2)) 92 != -1) with
  | true => exact uq_39a E l w t x hl hE hi g92 hS hU
  | false =>
    cases g10 : (Lib.indexByte ((39 :: l).take (E + 2)) 10 != -1) with
    | true => exact uq_39b E l w t x hl hE hi g92 g10 hS hU
    | false => exact uq_39c E l w t x hl hE hi g92 g10 hS hU

theorem index_at {l : List UInt8} {q : UInt8} (h : ¬ Lib.indexByte l q = -1) : ∃ E : Nat, Lib.indexByte l q = E ∧ E < l.length := by
  have h1 := Lib.indexByte_ge l q
  obtain ⟨E, hE⟩ := Int.eq_ofNat_of_zero_le (show 0 ≤ Lib.indexByte l q by omega)
  refine ⟨E, hE, ?_⟩
  have := (Lib.indexByte_some hE).1
  exact (List.getElem?_eq_some_iff.1 this).1
theorem no_byte {l : List UInt8} {q : UInt8} (h : Lib.indexByte l q = -1) : q ∉ l := fun hm => by
  obtain ⟨k, hk, e⟩ := List.getElem_of_mem hm
  exact Lib.indexByte_none h k (by rw [List.getElem?_eq_getElem hk, e])
theorem index_none {l : List UInt8} {q : UInt8} (h : q ∉ l) : Lib.indexByte l q = -1 := by
  by_cases h1 : Lib.indexByte l q = -1
  · exact h1
  · obtain ⟨E, hE, _⟩ := index_at h1
    exact absurd (List.mem_of_getElem? (Lib.indexByte_some hE).1) h

/-- strconv.unquote(in, true). -/
theorem unquote_calls (l : List UInt8) (w : World) (t : TypeId) (x : Value) (hl : l.length ≤ 1000000000) (hS : Syn w t x) (hU : Lib.Utf8Tabs 3 4 w) :
    Calls Tryd.prog 21 #[.string (str l), .bool true] w (UQPost t x w l (Uq.unquote l)) := by
  cases l with
  | nil => exact uq_short [] w t x (by simp) hS
  | cons q l =>
    unfold Uq.unquote
    simp only []
    have hl' : l.length + 1 ≤ 1000000000 := by simpa using hl
    by_cases h1 : l.length < 1
    · rw [if_pos h1]; exact uq_short _ w t x (by simp; omega) hS
    rw [if_neg h1]
    by_cases h2 : Lib.indexByte l q = -1
    · rw [if_pos h2]; exact uq_noend q l w t x (by omega) hl' h2 hS
    rw [if_neg h2]
    obtain ⟨E, hE, hEl⟩ := index_at h2
    rw [hE, Int.toNat_natCast]
    by_cases h3 : q = 96
    · subst h3
      rw [if_pos rfl]
      by_cases h4 : Lib.indexByte ((96 :: l).take (E + 2)) 13 = -1
      · have e : (l.take E).filter (fun x => decide (x ≠ 13)) = l.take E := by
          rw [List.filter_eq_self]
          intro a ha
          rw [decide_eq_true_iff]
          rintro rfl
          refine no_byte h4 ?_
          rw [show E + 2 = (E + 1) + 1 from rfl, List.take_succ_cons]
          refine List.mem_cons_of_mem _ ?_
          have : l.take E = (l.take (E + 1)).take E := by rw [List.take_take]; congr 1; omega
          rw [this] at ha
          exact List.mem_of_mem_take ha
        rw [e]
        exact uq_back_plain E l w t x (by omega) hl' hEl hE h4
      · refine uq_back_cr E l w t x ?_ hl' hEl hE (by rw [bne_iff_ne]; exact h4)
        rcases Nat.eq_zero_or_pos E with h0 | h0
        · exfalso
          subst h0
          refine h4 (index_none ?_)
          have h5 := (Lib.indexByte_some hE).1
          cases l with
          | nil => simp at hEl
          | cons a l =>
            have : a = 96 := by simpa using h5
            subst this
            simp
        · exact h0
    rw [if_neg h3]
    by_cases h5 : q = 34
    · subst h5
      rw [if_pos (.inl rfl)]
      exact uq_34 E l w t x hl' hEl hE hS hU
    by_cases h6 : q = 39
    · subst h6
      rw [if_pos (.inr rfl)]
      exact uq_39 E l w t x hl' hEl hE hS hU
    rw [if_neg (by rintro (h | h); exact h5 h; exact h6 h)]
    exact uq_other q E l w t x (by omega) hl' hEl hE (ne_k (nat_ne h3 rfl)) (ne_k (nat_ne h5 rfl)) (ne_k (nat_ne h6 rfl)) hS

set_option maxHeartbeats 400000 in
set_option maxRecDepth 20000 in
/-- strconv.Unquote. -/
theorem Unquote_calls (l : List UInt8) (w : World) (t : TypeId) (x : Value) (hl : l.length ≤ 1000000000) (hS : Syn w t x) (hU : Lib.Utf8Tabs 3 4 w) :
    Calls Tryd.prog 16 #[.string (str l)] w fun e w' => ∃ v, e = .returned (.tuple #[.string (Uq.unq l), v]) ∧ Below w.heap.size w w' := by
  have cU := unquote_calls l w t x hl hS hU
  have hS' : w.cell? ⟨1, 0, none⟩ = some (.iface t x) := hS
  cases hu : Uq.unquote l with
  | none =>
    rw [hu] at cU
    have hn : Hid (Uq.unq l = ByteArray.empty) := by show _ = _; rw [Uq.unq, hu]
    clear hu
    go_enter Tryd.func16, Tryd.ntmps16
    go_wp2_with (go_at_call 21; go_fit cU; rintro e w2 ⟨hb2, he⟩; obtain rfl := he; have hS2 : w2.cell? ⟨1, 0, none⟩ = some (.iface t x) := Syn.below hS hb2)
    · go_quiet (fail)
      go_wp2_with fail
      go_ret2
      rw [hn.out]
      exact ⟨_, rfl, below_drewN hb2 _⟩
    · go_ret2
      rw [hn.out]
      exact ⟨_, rfl, hb2⟩
  | some p =>
    obtain ⟨out, rem⟩ := p
    rw [hu] at cU
    cases rem with
    | nil =>
      have hn : Hid (Uq.unq l = out) := by show _ = _; rw [Uq.unq, hu]; rfl
      clear hu
      go_enter Tryd.func16, Tryd.ntmps16
      go_wp2_with (go_at_call 21; go_fit cU; rintro e w2 ⟨hb2, he⟩; obtain rfl := he; have hS2 : w2.cell? ⟨1, 0, none⟩ = some (.iface t x) := Syn.below hS hb2)
      go_ret2
      rw [hn.out]
      exact ⟨_, rfl, hb2⟩
    | cons a b =>
      have hn : Hid (Uq.unq l = ByteArray.empty) := by show _ = _; rw [Uq.unq, hu]; rfl
      clear hu
      go_enter Tryd.func16, Tryd.ntmps16
      go_wp2_with (go_at_call 21; go_fit cU; rintro e w2 ⟨hb2, he⟩; obtain rfl := he; have hS2 : w2.cell? ⟨1, 0, none⟩ = some (.iface t x) := Syn.below hS hb2)
      go_quiet (fail)
      go_wp2_with fail
      go_ret2
      rw [hn.out]
      exact ⟨_, rfl, below_drewN hb2 _⟩

end Go.Proofs.Qxb6609089aDoor
