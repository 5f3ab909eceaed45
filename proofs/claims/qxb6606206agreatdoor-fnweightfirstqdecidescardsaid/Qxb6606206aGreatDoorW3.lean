import Derived.Test.Qxb6606206aGreatDoorW2
import Derived.Test.Qxb6606206aGreatDoorL3
set_option linter.unusedSimpArgs false
set_option linter.unusedVariables false
namespace Go.Proofs.Qxb6606206aGreatDoor
open Go Go.RowKit
attribute [local go_sem] frombits_run str_size str_get str_extract str_toList str_append

set_option maxHeartbeats 1600000 in
theorem cpl_calls (s p : List UInt8) (hs : s.length ≤ 1000000000) (hp : p.length ≤ 1000000000) : Gives 87 #[.string (str s), .string (str p)] (.int .i64 (cpl s p)) := by
  intro w
  obtain ⟨n, hn⟩ : ∃ n, n = min p.length s.length := ⟨_, rfl⟩
  have hn1 : n ≤ p.length := by omega
  have hn2 : n ≤ s.length := by omega
  have hmin : ∀ (ts : Array TypeId) (t : TypeId) (w : World), (Builtin.min_ ts t #[.int .i64 (p.length : Int), .int .i64 (s.length : Int)]).run Tryz.prog w = .ok (.int .i64 n) w := fun ts t w => by
    rw [run_min_int2]
    congr 2
    split <;> omega
  obtain ⟨R, hR⟩ : ∃ R, cpl s p = R := ⟨_, rfl⟩
  have HR : Hid (cpl s p = R) := hR
  rw [hR]
  have HN : Hid (n = min p.length s.length) := hn
  clear hR hn
  go_enter Tryz.func87, Tryz.ntmps87
  go_wp2
  go_loopw [6] (fun vi wr => ∃ i : Nat, vi = .int .i64 i ∧ i ≤ n ∧ wr = w ∧ Hid (cpl (s.drop i) (p.drop i) + i = R)) (fun vi _ => n - (intOf vi).toNat)
  case atStart => exact ⟨0, rfl, by omega, rfl, HR⟩
  case round =>
    obtain ⟨i, rfl, hi, rfl, hq⟩ := hrel
    by_cases hlt : i < n
    · have h1 : i < s.length := by omega
      have h2 : i < p.length := by omega
      have hst := cpl_drop s p i h1 h2
      have HST : Hid (cpl (s.drop i) (p.drop i) = if lo s[i] = p[i].toNat then cpl (s.drop (i + 1)) (p.drop (i + 1)) + 1 else 0) := hst
      clear hst
      have hc := UInt8.toNat_lt s[i]
      obtain ⟨L, hL⟩ : ∃ L : Int, lo s[i] = L := ⟨_, rfl⟩
      have HL : Hid (lo s[i] = L) := hL
      by_cases hu : 65 ≤ (s[i].toNat : Int) ∧ (s[i].toNat : Int) ≤ 90
      · have hl : L = (s[i].toNat : Int) + 32 := by rw [← hL]; exact if_pos hu
        obtain ⟨hu1, hu2⟩ := hu
        clear hL
        by_cases he : (s[i].toNat : Int) + 32 = (p[i].toNat : Int)
        · go_wp2
          refine ⟨⟨i + 1, rfl, by omega, by trivial, ?_⟩, by simp [intOf]; omega⟩
          show _ = _
          rw [← hq.out, HST.out, if_pos (by rw [HL.out, hl, he])]
          omega
        · go_wp2
          go_ret
          refine ⟨?_, rfl⟩
          have : R = i := by rw [← hq.out, HST.out, if_neg (by rw [HL.out, hl]; exact he)]; omega
          rw [this]; rfl
      · have hl : L = (s[i].toNat : Int) := by rw [← hL]; exact if_neg hu
        clear hL
        by_cases he : (s[i].toNat : Int) = (p[i].toNat : Int)
        · go_wp2
          all_goals
            refine ⟨⟨i + 1, rfl, by omega, by trivial, ?_⟩, by simp [intOf]; omega⟩
            show _ = _
            rw [← hq.out, HST.out, if_pos (by rw [HL.out, hl, he])]
            omega
        · go_wp2
          all_goals
            go_ret
            refine ⟨?_, rfl⟩
            have : R = i := by rw [← hq.out, HST.out, if_neg (by rw [HL.out, hl]; exact he)]; omega
            rw [this]; rfl
    · have hR : R = n := by
        rw [← hq.out, cpl_end s p i (by have := HN.out; omega)]; omega
      subst hR
      clear hq HR HN
      go_wp2
      go_ret
      exact ⟨rfl, rfl⟩
end Go.Proofs.Qxb6606206aGreatDoor
