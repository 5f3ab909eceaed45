import Derived.Test.Qxb6609089aDoorW6
import Derived.BigQuiet
import Derived.Deep.QuietTactic
import Derived.Deep.LoopGhost
set_option linter.unusedSimpArgs false
set_option linter.unusedVariables false
namespace Go.Proofs.Qxb6609089aDoor
open Go Go.RowKit

/-- The cut of the kept buffer as the model lays it. -/
theorem cut_at {w : World} {b : Nat} {l : List UInt8} (h : BAt w b 0 l) (s e : Nat) (he : e ≤ l.length) : ∃ o, (if l.length = s then some (⟨b, 0, none⟩ : Addr) else some ⟨b, s, none⟩) = some ⟨b, o, none⟩ ∧ BAt w b o ((l.take e).drop s) := by
  by_cases hs : l.length = s
  · refine ⟨0, by rw [if_pos hs], fun i hi => ?_⟩
    rw [List.length_drop, List.length_take] at hi
    omega
  · refine ⟨s, by rw [if_neg hs], ?_⟩
    have := (h.take e).drop s
    rwa [Nat.zero_add] at this

set_option maxHeartbeats 800000 in
theorem ready_ended (rb : Nat) (p : Option Addr) (n c : Nat) (s e : Nat) (t : TypeId) (x : Value) (w : World) (hse : s ≤ e) (hen : e ≤ c) (hc : c ≤ 1048576) (hR : RdAt w rb (.slice p n c) s e (.iface t x)) :
    Calls Tryd.prog 14 #[.pointer (some ⟨rb, 0, none⟩)] w fun e w' => e = .returned (.bool true) ∧ Below w.heap.size w w' := by
  have c1 := hR.c1
  have c2 := hR.c2
  have c3 := hR.c3
  have c4 := hR.c4
  go_enter Tryd.func14, Tryd.ntmps14
  go_wp2_with fail
  go_quiet (fail)
  go_wp2_with fail
  all_goals
    refine wp_loop_rounds 1 ?_
    rw [rounds_succ]
    go_wp2
    go_ret
    exact ⟨rfl, below_drewN w _⟩

theorem trim_at {w : World} {b o : Nat} {pre t : List UInt8} (h : BAt w b o (pre ++ 10 :: t)) : BAt w b o (Rd.trimCR pre) := by
  obtain ⟨m, hm, e⟩ := Rd.trimCR_prefix pre
  have h1 := h.take m
  rw [List.take_append_of_le_length hm, ← e] at h1
  exact h1
theorem trim_le (pre : List UInt8) : (Rd.trimCR pre).length ≤ pre.length := by
  obtain ⟨m, hm, e⟩ := Rd.trimCR_prefix pre
  rw [e, List.length_take]; omega
theorem Tabs.below {w w' : World} (h : Tabs w) (hb : Below w.heap.size w w') : Tabs w' := ⟨Utf8Tabs_below h.u hb, WhiteTab_below h.s hb⟩

set_option maxHeartbeats 800000 in
theorem ready_open (rb b : Nat) (l : List UInt8) (s e : Nat) (w : World) (hse : s ≤ e) (hen : e ≤ l.length) (hc : l.length ≤ 1048576) (hR : RdAt w rb (.slice (some ⟨b, 0, none⟩) l.length l.length) s e .nilIface) (hB : BAt w b 0 l) (hbw : b < w.heap.size) (hT : Tabs w) :
    Calls Tryd.prog 14 #[.pointer (some ⟨rb, 0, none⟩)] w fun z w' => z = .returned (.bool (Rd.rdy skp [] ((l.take e).drop s))) ∧ Below w.heap.size w w' := by
  have c1 := hR.c1
  have c2 := hR.c2
  have c3 := hR.c3
  have c4 := hR.c4
  have hrw := World.block_lt_of_cell? w _ c4
  obtain ⟨o, ho, hBo⟩ := cut_at hB s e hen
  have hlen : ((l.take e).drop s).length = e - s := by simp; omega
  obtain ⟨L, hL⟩ : ∃ L, (l.take e).drop s = L := ⟨_, rfl⟩
  rw [hL] at hBo hlen ⊢
  obtain ⟨N, hN⟩ : ∃ N, l.length = N := ⟨_, rfl⟩
  rw [hN] at ho c1 hc hen
  have HO : Hid ((if N = s then some (⟨b, 0, none⟩ : Addr) else some ⟨b, s, none⟩) = some ⟨b, o, none⟩) := ho
  have HL : Hid (L.length = e - s) := hlen
  clear hB hL hN ho hR hlen
  go_enter Tryd.func14, Tryd.ntmps14
  go_wp2_with fail
  go_quiet (fail)
  go_wp2_with fail
  all_goals
    go_loopg [3] (L.length + 1) (fun g v wx => ∃ o' l' c', v = .slice (some ⟨b, o', none⟩) l'.length c' ∧ l'.length ≤ c' ∧ l'.length < g ∧ l'.length ≤ 1048576 ∧ BAt wx b o' l' ∧ Below w.heap.size w wx ∧ Hid (Rd.rdy skp [] l' = Rd.rdy skp [] L))
    case atStart =>
      have ho := HO.out
      first
        | (have h' : N = s := by assumption
           rw [if_pos h'] at ho
           have ho' : 0 = o := by simpa using ho
           refine ⟨0, L, 0, ?_, ?_, ?_, ?_, ?_, below_drewN w _, rfl⟩
           · rw [HL.out]
           · rw [HL.out]; omega
           · omega
           · rw [HL.out]; omega
           · rw [ho']; exact hBo)
        | (have h' : ¬ N = s := by assumption
           rw [if_neg h'] at ho
           have ho' : s = o := by simpa using ho
           refine ⟨s, L, N - s, ?_, ?_, ?_, ?_, ?_, below_drewN w _, rfl⟩
           · rw [HL.out]
           · rw [HL.out]; omega
           · omega
           · rw [HL.out]; omega
           · rw [ho']; exact hBo)
    case round =>
      obtain ⟨o', l', c', rfl, hlc, hlg, hll, hBr, hbr, hq⟩ := hrel
      obtain ⟨g', rfl⟩ : ∃ g', gk = g' + 1 := ⟨gk - 1, by omega⟩
      have c4r : wr.cell? ⟨rb, 4, none⟩ = some .nilIface := by rw [hbr.cell (p := ⟨rb, 4, none⟩) hrw]; exact c4
      rcases Rd.lf_cases l' with h10 | ⟨pre, t, rfl, h10⟩
      · have cF := firstLine_none b o' c' l' wr hBr h10
        have hres : Hid (Rd.rdy skp [] l' = false) := Rd.rdy_none skp l' [] h10
        clear h10 hBr
        go_wp2_with (go_at_call 18; go_fit cF; rintro e w' ⟨rfl, hw⟩; have hw' := hw.symm; subst hw'; clear hw)
        go_ret
        refine ⟨ret_bool ?_, hbr⟩
        rw [← hq.out, hres.out]
        simp; omega
      · have cF := firstLine_some b o' c' pre t wr hBr h10 hlc hll
        have hres : Hid (Rd.rdy skp [] (pre ++ 10 :: t) = if skp (Rd.trimCR pre) then Rd.rdy skp [] t else true) := by
          have := Rd.rdy_cut skp pre [] t h10
          rwa [List.nil_append] at this
        have cS := fun w' (hb' : Below wr.heap.size wr w') => skipped_calls b o' c' (Rd.trimCR pre) w' (trim_at (hBr.below hb' (Nat.lt_of_lt_of_le hbw hbr.size))) (by have := trim_le pre; simp at hlc; omega) (by have := trim_le pre; simp at hll; omega) (hT.below (hbr.trans (hb'.mono hbr.size)))
        have BR : Hid (BAt wr b o' (pre ++ 10 :: t)) := hBr
        have hlt : pre.length + 1 ≤ (pre ++ 10 :: t).length := by simp
        obtain ⟨M, hM⟩ : ∃ M, (pre ++ 10 :: t).length = M := ⟨_, rfl⟩
        obtain ⟨T, hTl⟩ : ∃ T, (Rd.trimCR pre).length = T := ⟨_, rfl⟩
        obtain ⟨k, hk⟩ : ∃ k, skp (Rd.trimCR pre) = k := ⟨_, rfl⟩
        have hT1 : T ≤ pre.length := by rw [← hTl]; exact trim_le pre
        rw [hM, hTl] at cF
        rw [hM] at hlc hll hlt
        simp only [hTl, hk] at cS
        have HM : Hid ((pre ++ 10 :: t).length = M) := hM
        have HK : Hid (skp (Rd.trimCR pre) = k) := hk
        rw [hM] at hlg ⊢
        clear hBr h10 hM hTl hk
        go_wp2_with (first
          | (go_at_call 18; go_fit cF; rintro e w1 ⟨rfl, hb1⟩)
          | (go_at_call 19; go_fit (cS _ hb1); rintro e w2 ⟨rfl, hb2⟩))
        · have hor : 1048576 < (T : Int) ∨ (!k) = true := by assumption
          have hkf : k = false := by
            rcases hor with h | h
            · omega
            · simpa using h
          go_ret
          refine ⟨ret_bool ?_, hbr.trans ((hb1.mono hbr.size).trans (hb2.mono (Nat.le_trans hbr.size hb1.size)))⟩
          rw [← hq.out, hres.out, HK.out, hkf]
          rfl
        · have hkt : k = true := by
            have h : (T : Int) ≤ 1048576 ∧ (!k) = false := by assumption
            simpa using h.2
          have ht : t.length = 0 := by have := HM.out; simp at this; omega
          have hbb := hbr.trans ((hb1.mono hbr.size).trans (hb2.mono (Nat.le_trans hbr.size hb1.size)))
          go_roundg g'
          case measure => omega
          case rel =>
            refine ⟨o', t, 0, ?_, by omega, by omega, by omega, fun i hi => by omega, hbb, show _ = _ by rw [← hq.out, hres.out, HK.out, hkt]; rfl⟩
            rw [show M - (pre.length + 1) = t.length by have := HM.out; simp at this; omega]
        · have hkt : k = true := by
            have h : (T : Int) ≤ 1048576 ∧ (!k) = false := by assumption
            simpa using h.2
          have ht : M = pre.length + 1 + t.length := by have := HM.out; simp at this; omega
          have hbb := hbr.trans ((hb1.mono hbr.size).trans (hb2.mono (Nat.le_trans hbr.size hb1.size)))
          have hBt : BAt w2 b (o' + (pre.length + 1)) t := by
            have h1 := (BR.out.below (hb1.trans (hb2.mono hb1.size)) (Nat.lt_of_lt_of_le hbw hbr.size)).drop (pre.length + 1)
            have e1 : (pre ++ 10 :: t).drop (pre.length + 1) = t := by simp [List.drop_append]
            rwa [e1] at h1
          go_roundg g'
          case measure => omega
          case rel =>
            refine ⟨o' + (pre.length + 1), t, c' - (pre.length + 1), ?_, by omega, by omega, by omega, hBt, hbb, show _ = _ by rw [← hq.out, hres.out, HK.out, hkt]; rfl⟩
            rw [show M - (pre.length + 1) = t.length by omega]

end Go.Proofs.Qxb6609089aDoor
