import Derived.Test.Qxb6614395aFmtW29
set_option linter.unusedSimpArgs false
set_option linter.unusedVariables false
namespace Go.Proofs.Qxb6614395aFmt
open Go Go.RowKit Go.Deep Go.Extern.Stop Go.Stop Go.Extern
attribute [local go_sem] str_size str_get str_extract str_toList str_append

set_option maxHeartbeats 1600000 in
set_option maxRecDepth 20000 in
/-- zzBytes of law 4. -/
theorem bytes4_calls (d s : List UInt8) (v : Value) (xs : List (List UInt8)) (w : World) (hd : d.length ≤ 9223372036854775807) (hs : s.length ≤ 9223372036854775807) (hv : HArg w v xs) :
    Calls Tryf.prog 13 #[.string (str d), .string (str s), v] w (BoolPost xs w) := by
  by_cases h1 : (1048576 : Int) < (d.length : Int)
  · rcases hv with ⟨rfl, rfl⟩ | ⟨b, o, sp, cap, rfl, hsp, hst, hc, hc2, hx⟩ <;>
    · go_enter Tryf.func13, Tryf.ntmps13
      go_wp2_with fail
      go_ret
      exact ⟨⟨false, rfl, by simp⟩, rfl⟩
  · by_cases h2 : (1048576 : Int) < (s.length : Int)
    · rcases hv with ⟨rfl, rfl⟩ | ⟨b, o, sp, cap, rfl, hsp, hst, hc, hc2, hx⟩ <;>
      · go_enter Tryf.func13, Tryf.ntmps13
        go_wp2_with fail
        go_ret
        exact ⟨⟨false, rfl, by simp⟩, rfl⟩
    · by_cases h3 : (1048576 : Int) < (d.length : Int) + (s.length : Int)
      · rcases hv with ⟨rfl, rfl⟩ | ⟨b, o, sp, cap, rfl, hsp, hst, hc, hc2, hx⟩ <;>
        · go_enter Tryf.func13, Tryf.ntmps13
          go_wp2_with fail
          go_ret
          exact ⟨⟨false, rfl, by simp⟩, rfl⟩
      · rcases hv with ⟨rfl, rfl⟩ | ⟨b, o, sp, cap, rfl, hsp, hst, hc, hc2, hx⟩
        · go_enter Tryf.func13, Tryf.ntmps13
          go_upto_region 18 with fail
          go_loopg [7, 8] 1 (fun f v7 v8 wr => v8 = .int .i64 0 ∧ wr = w)
          case atStart => exact ⟨rfl, rfl⟩
          case round =>
            obtain ⟨rfl, hw⟩ := hrel
            subst hw
            go_wp2_with fail
            go_ret
            exact ⟨⟨true, rfl, by simp⟩, rfl⟩
        · by_cases h4 : (1048576 : Int) < (xs.length : Int)
          · go_enter Tryf.func13, Tryf.ntmps13
            go_wp2_with fail
            go_ret
            exact ⟨⟨false, rfl, by simp⟩, rfl⟩
          · by_cases h5 : (1048576 : Int) < (d.length : Int) + (s.length : Int) + (xs.length : Int)
            · go_enter Tryf.func13, Tryf.ntmps13
              go_wp2_with fail
              go_ret
              exact ⟨⟨false, rfl, by simp⟩, rfl⟩
            · go_enter Tryf.func13, Tryf.ntmps13
              go_upto_region 18 with fail
              go_loopg [7, 8] (xs.length + 1) (fun f v7 v8 wr => ∃ (i : Nat) (z : Int), v7 = .int .i64 z ∧ 0 ≤ z ∧ z ≤ 1048576 ∧ v8 = .int .i64 (i : Int) ∧ i ≤ xs.length ∧ xs.length < f + i ∧ wr = w ∧ Hid (∀ x ∈ xs.take i, x.length ≤ 1048576))
              case atStart => exact ⟨0, _, rfl, by omega, by omega, rfl, by omega, by omega, rfl, by show ∀ x ∈ _, _; simp⟩
              case round =>
                obtain ⟨i, z, rfl, hz0, hz1, rfl, hi, hif, hw, hal⟩ := hrel
                subst hw
                obtain ⟨f, rfl⟩ : ∃ f, gk = f + 1 := ⟨gk - 1, by omega⟩
                by_cases hlt : i < xs.length
                · obtain rfl : sp = none := hsp.resolve_left (by omega)
                  have hci := hst i hlt
                  have hxl := hx _ (List.getElem_mem hlt)
                  obtain ⟨x, hxi⟩ : ∃ x, xs[i] = x := ⟨_, rfl⟩
                  have htk : xs.take (i + 1) = xs.take i ++ [x] := by rw [List.take_add_one, List.getElem?_eq_getElem hlt, hxi]; rfl
                  have HTK := hid_of htk
                  rw [hxi] at hci hxl
                  clear hxi hst hx htk
                  by_cases h6 : (1048576 : Int) < (x.length : Int)
                  · go_wp2_with fail
                    go_ret
                    exact ⟨⟨false, rfl, by simp⟩, rfl⟩
                  · by_cases h7 : (1048576 : Int) < z + (x.length : Int)
                    · go_wp2_with fail
                      go_ret
                      exact ⟨⟨false, rfl, by simp⟩, rfl⟩
                    · go_wp2_with fail
                      go_roundg f
                      case measure => omega
                      case rel =>
                        refine ⟨i + 1, z + (x.length : Int), rfl, by omega, by omega, rfl, by omega, by omega, rfl, ?_⟩
                        show ∀ y ∈ xs.take (i + 1), _
                        rw [HTK.out]
                        intro y hy
                        rcases List.mem_append.1 hy with h | h
                        · exact hal.out y h
                        · simp at h; rw [h]; omega
                · obtain rfl : i = xs.length := by omega
                  have HAL : Hid (∀ x ∈ xs, x.length ≤ 1048576) := by
                    have := hal.out
                    rw [List.take_length] at this
                    exact this
                  clear hal
                  go_wp2_with fail
                  go_ret
                  exact ⟨⟨true, rfl, fun _ => HAL.out⟩, rfl⟩
end Go.Proofs.Qxb6614395aFmt
