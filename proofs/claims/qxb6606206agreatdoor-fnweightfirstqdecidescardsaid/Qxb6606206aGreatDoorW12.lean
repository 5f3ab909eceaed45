import Derived.Test.Qxb6606206aGreatDoorW11
import Derived.Test.Qxb6606206aGreatDoorL4
set_option linter.unusedSimpArgs false
set_option linter.unusedVariables false
namespace Go.Proofs.Qxb6606206aGreatDoor
open Go Go.RowKit

def Roundup (s : Dc) (x : Int) (b : Bool) : Prop := ∀ (g : Nat) (w : World), DAt w g s → Calls Tryz.prog 107 #[.pointer (some ⟨g, 0, none⟩), .int .i64 x] w fun e w' => e = .returned (.bool b) ∧ w' = w

set_option maxHeartbeats 3200000 in
set_option maxRecDepth 20000 in
theorem sru_gives (s : Dc) (hs : s.Ok) (x : Int) (hx : x ≤ 1000000000) : ∃ b, Roundup s x b := by
  have hle := hs.le
  by_cases h0 : x < 0
  · refine ⟨false, fun g w h => ?_⟩
    go_enter Tryz.func107, Tryz.ntmps107
    go_wp2_with fail
    go_ret
    exact ⟨rfl, rfl⟩
  obtain ⟨n, rfl⟩ : ∃ n : Nat, x = n := ⟨x.toNat, by omega⟩
  by_cases h1 : s.nd ≤ n
  · refine ⟨false, fun g w h => ?_⟩
    have c0 := h.nd
    clear h
    go_enter Tryz.func107, Tryz.ntmps107
    go_wp2_with fail
    go_ret
    exact ⟨rfl, rfl⟩
  have hlt : n < 800 := by omega
  by_cases h5 : s.d n = 53
  · by_cases hl : n + 1 = s.nd
    · cases ht : s.tr with
      | true =>
        refine ⟨true, fun g w h => ?_⟩
        have c0 := h.nd
        have cd := h.dig hlt
        have ct := h.tr
        rw [h5] at cd
        rw [ht] at ct
        have hl' : ((n : Int) + 1 == (s.nd : Int)) = true := by rw [beq_iff_eq]; omega
        clear h ht
        go_enter Tryz.func107, Tryz.ntmps107
        go_wp2_with fail
        go_ret
        exact ⟨rfl, rfl⟩
      | false =>
        have hl' : ((n : Int) + 1 == (s.nd : Int)) = true := by rw [beq_iff_eq]; omega
        by_cases hn0 : n = 0
        · refine ⟨false, fun g w h => ?_⟩
          have c0 := h.nd
          have cd := h.dig hlt
          have ct := h.tr
          rw [h5] at cd
          rw [ht] at ct
          rw [← hl] at c0
          subst hn0
          clear h ht hl hl' h5 h1 hle
          go_enter Tryz.func107, Tryz.ntmps107
          go_wp2_with fail
          go_ret
          exact ⟨rfl, rfl⟩
        · have hg := hs.dig (n - 1) (by omega)
          unfold Dc.Dig at hg
          obtain ⟨hg1, hg2⟩ := hg
          have hv : s.d (n - 1) = 48 ∨ s.d (n - 1) = 49 ∨ s.d (n - 1) = 50 ∨ s.d (n - 1) = 51 ∨ s.d (n - 1) = 52 ∨ s.d (n - 1) = 53 ∨ s.d (n - 1) = 54 ∨ s.d (n - 1) = 55 ∨ s.d (n - 1) = 56 ∨ s.d (n - 1) = 57 := by omega
          have hnp : 0 < n := by omega
          rcases hv with hv | hv | hv | hv | hv | hv | hv | hv | hv | hv
          all_goals
            refine ⟨(s.d (n - 1)) % 2 == 1, fun g w h => ?_⟩
            have c0 := h.nd
            have cd := h.dig hlt
            have cm := h.dig (i := n - 1) (by omega)
            have ct := h.tr
            rw [h5] at cd
            rw [ht] at ct
            rw [hv] at cm
            rw [hv]
            clear h ht hn0 h5 hle hv hg1 hg2 hl
            go_enter Tryz.func107, Tryz.ntmps107
            go_wp2_with fail
            go_ret
            exact ⟨rfl, rfl⟩
    · refine ⟨true, fun g w h => ?_⟩
      have c0 := h.nd
      have cd := h.dig hlt
      rw [h5] at cd
      have hl' : ((n : Int) + 1 == (s.nd : Int)) = false := by rw [beq_eq_false_iff_ne]; omega
      clear h
      go_enter Tryz.func107, Tryz.ntmps107
      go_wp2_with fail
      go_ret
      exact ⟨rfl, rfl⟩
  · have hg := hs.dig n (by omega)
    unfold Dc.Dig at hg
    obtain ⟨hg1, hg2⟩ := hg
    have h5' : ((s.d n : Int) == 53) = false := by rw [beq_eq_false_iff_ne]; omega
    by_cases hge : 53 ≤ s.d n
    · refine ⟨true, fun g w h => ?_⟩
      have c0 := h.nd
      have cd := h.dig hlt
      clear h
      go_enter Tryz.func107, Tryz.ntmps107
      go_wp2_with fail
      go_ret
      exact ⟨by simp; omega, rfl⟩
    · refine ⟨false, fun g w h => ?_⟩
      have c0 := h.nd
      have cd := h.dig hlt
      clear h
      go_enter Tryz.func107, Tryz.ntmps107
      go_wp2_with fail
      go_ret
      exact ⟨by simp; omega, rfl⟩

/-- RoundedInteger's loops. -/
def ri1 (s : Dc) : Nat → Nat → Int → Nat × Int
  | 0, i, n => (i, n)
  | f + 1, i, n => if (i : Int) < s.dp ∧ i < s.nd then ri1 s f (i + 1) (IntKind.u64.wrap (IntKind.u64.wrap (n * 10) + (s.d i - 48))) else (i, n)
def ri2 (s : Dc) : Nat → Nat → Int → Int
  | 0, i, n => n
  | f + 1, i, n => if (i : Int) < s.dp then ri2 s f (i + 1) (IntKind.u64.wrap (n * 10)) else n

def RInt (s : Dc) (v : Int) : Prop := ∀ (g : Nat) (w : World), DAt w g s → Calls Tryz.prog 101 #[.pointer (some ⟨g, 0, none⟩)] w fun e w' => e = .returned (.int .u64 v) ∧ w' = w

set_option maxHeartbeats 3200000 in
set_option maxRecDepth 20000 in
theorem ri_gives (s : Dc) (hs : s.Ok) (hd0 : -1000000000 ≤ s.dp) : ∃ v, 0 ≤ v ∧ v ≤ 18446744073709551615 ∧ RInt s v := by
  have hle := hs.le
  by_cases h20 : s.dp > 20
  · refine ⟨18446744073709551615, by omega, by omega, fun g w h => ?_⟩
    have c0 := h.nd
    have c1 := h.dp
    clear h
    go_enter Tryz.func101, Tryz.ntmps101
    go_wp2_with fail
    go_ret
    exact ⟨rfl, rfl⟩
  obtain ⟨b, hb⟩ := sru_gives s hs s.dp (by omega)
  obtain ⟨A, hA⟩ : ∃ A, ri1 s 100 0 0 = A := ⟨_, rfl⟩
  obtain ⟨i1, n1⟩ := A
  obtain ⟨n2, hn2⟩ : ∃ n2, ri2 s 100 i1 n1 = n2 := ⟨_, rfl⟩
  have HA := hid_of hA
  have HN2 := hid_of hn2
  have HS := hid_of hs
  clear hA hn2 hs
  have hfin : ∀ n2 : Int, (if b then IntKind.u64.wrap (n2 + 1) else n2) = (if b then IntKind.u64.wrap (n2 + 1) else n2) := fun _ => rfl
  refine ⟨if b then IntKind.u64.wrap (n2 + 1) else IntKind.u64.wrap n2, ?_, ?_, fun g w h => ?_⟩
  · split <;> exact (wrapu_ok _).1
  · split <;> exact (wrapu_ok _).2
  have c0 := h.nd
  have c1 := h.dp
  have H := hid_of h
  have cB := hb g w h
  obtain ⟨V, hV⟩ : ∃ V, (if b then IntKind.u64.wrap (n2 + 1) else IntKind.u64.wrap n2) = V := ⟨_, rfl⟩
  have HV := hid_of hV
  rw [hV]
  clear h hb hV hfin
  go_enter Tryz.func101, Tryz.ntmps101
  go_upto_block 0 with fail
  go_cut [3, 4] from 10 to 36 (fun v3 v4 wr => v3 = .int .i64 i1 ∧ v4 = .int .u64 n1 ∧ wr = w ∧ 0 ≤ n1 ∧ n1 ≤ 18446744073709551615 ∧ i1 ≤ 21)
  case first =>
    clear HN2 HV cB
    go_wp2_with fail
    go_loopg [3, 4] 100 (fun f v3 v4 wr => ∃ (i : Nat) (n : Int), v3 = .int .i64 i ∧ v4 = .int .u64 n ∧ wr = w ∧ f + i = 100 ∧ i ≤ 21 ∧ 0 ≤ n ∧ n ≤ 18446744073709551615 ∧ Hid (ri1 s f i n = (i1, n1)))
    case atStart => exact ⟨0, 0, rfl, rfl, rfl, by omega, by omega, by omega, by omega, HA⟩
    case round =>
      obtain ⟨i, n, rfl, rfl, hwr, hf, hi21, hn0, hn1, hq⟩ := hrel
      have hwr' := hwr.symm
      subst hwr'
      clear hwr HA
      obtain ⟨f, rfl⟩ : ∃ f, gk = f + 1 := ⟨gk - 1, by omega⟩
      by_cases hc1 : (i : Int) < s.dp
      · by_cases hc2 : i < s.nd
        · have hg := HS.out.dig i hc2
          unfold Dc.Dig at hg
          obtain ⟨hg1, hg2⟩ := hg
          have cd := H.out.dig (i := i) (by omega)
          have hst : Hid (ri1 s (f + 1) i n = ri1 s f (i + 1) (IntKind.u64.wrap (IntKind.u64.wrap (n * 10) + (s.d i - 48)))) := by show _ = _; rw [ri1, if_pos ⟨hc1, hc2⟩]
          go_wp2_with fail
          go_roundg f
          case measure => omega
          case rel =>
            refine ⟨i + 1, IntKind.u64.wrap (IntKind.u64.wrap (n * 10) + (s.d i - 48)), rfl, rfl, by trivial, by omega, by omega, (wrapu_ok _).1, (wrapu_ok _).2, ?_⟩
            show _ = _
            rw [← hst.out]; exact hq.out
        · have he : (i, n) = (i1, n1) := by rw [← hq.out, ri1, if_neg (fun h => hc2 h.2)]
          simp only [Prod.mk.injEq] at he
          obtain ⟨rfl, rfl⟩ := he
          clear hq
          go_wp2_with fail
          go_meet
          exact ⟨rfl, rfl, by trivial, hn0, hn1, hi21⟩
      · have he : (i, n) = (i1, n1) := by rw [← hq.out, ri1, if_neg (fun h => hc1 h.1)]
        simp only [Prod.mk.injEq] at he
        obtain ⟨rfl, rfl⟩ := he
        clear hq
        go_wp2_with fail
        go_meet
        exact ⟨rfl, rfl, by trivial, hn0, hn1, hi21⟩
  case rest =>
  obtain ⟨rfl, rfl, hw, hn10, hn11, hi21⟩ := hcut
  have hw' := hw.symm
  subst hw'
  clear hw HA
  go_upto_block 2 with fail
  go_cut [3, 4] from 37 to 46 (fun v3 v4 wr => v4 = .int .u64 n2 ∧ wr = w ∧ 0 ≤ n2 ∧ n2 ≤ 18446744073709551615)
  case first =>
    clear HV cB
    go_wp2_with fail
    go_loopg [3, 4] 100 (fun f v3 v4 wr => ∃ (i : Nat) (n : Int), v3 = .int .i64 i ∧ v4 = .int .u64 n ∧ wr = w ∧ 100 ≤ f + i ∧ i ≤ 21 ∧ 0 ≤ n ∧ n ≤ 18446744073709551615 ∧ Hid (ri2 s f i n = n2))
    case atStart => exact ⟨i1, n1, rfl, rfl, rfl, by omega, by omega, by omega, by omega, HN2⟩
    case round =>
      obtain ⟨i, n, rfl, rfl, hwr, hf, hi21', hn0, hn1, hq⟩ := hrel
      have hwr' := hwr.symm
      subst hwr'
      clear hwr HN2
      obtain ⟨f, rfl⟩ : ∃ f, gk = f + 1 := ⟨gk - 1, by omega⟩
      by_cases hc1 : (i : Int) < s.dp
      · have hst : Hid (ri2 s (f + 1) i n = ri2 s f (i + 1) (IntKind.u64.wrap (n * 10))) := by show _ = _; rw [ri2, if_pos hc1]
        go_wp2_with fail
        go_roundg f
        case measure => omega
        case rel =>
          refine ⟨i + 1, IntKind.u64.wrap (n * 10), rfl, rfl, by trivial, by omega, by omega, (wrapu_ok _).1, (wrapu_ok _).2, ?_⟩
          show _ = _
          rw [← hst.out]; exact hq.out
      · have he : n = n2 := by rw [← hq.out, ri2, if_neg hc1]
        subst he
        clear hq
        go_wp2_with fail
        go_meet
        exact ⟨rfl, by trivial, hn0, hn1⟩
  case rest =>
  obtain ⟨rfl, hw, hn20, hn21⟩ := hcut
  have hw' := hw.symm
  subst hw'
  clear hw HN2
  cases b with
  | true =>
    have hv : Hid (V = IntKind.u64.wrap (n2 + 1)) := HV.out.symm
    clear HV
    go_wp2_with (go_at_call 107; go_fit cB; rintro e w' ⟨rfl, rfl⟩)
    go_ret
    rw [hv.out]
    exact ⟨rfl, rfl⟩
  | false =>
    have hv : Hid (V = n2) := by
      show _ = _
      rw [← HV.out]
      simp only [if_false, Bool.false_eq_true]
      rw [IntKind.wrap_u64]; omega
    clear HV
    go_wp2_with (go_at_call 107; go_fit cB; rintro e w' ⟨rfl, rfl⟩)
    go_ret
    rw [hv.out]
    exact ⟨rfl, rfl⟩
end Go.Proofs.Qxb6606206aGreatDoor
