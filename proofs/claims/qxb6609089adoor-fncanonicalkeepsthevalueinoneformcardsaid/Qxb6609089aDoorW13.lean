import Derived.Test.Qxb6609089aDoorW12
set_option linter.unusedSimpArgs false
set_option linter.unusedVariables false
namespace Go.Proofs.Qxb6609089aDoor
open Go Go.RowKit
attribute [local go_sem] str_size str_get str_extract str_toList str_append

theorem hexv_none {H : List UInt8} {k : Nat} {y : Int} (hk : k < H.length) (hu : (Uq.unhex H[k]).isNone = true) : Uq.hexv (H.drop k) y = none := by
  rw [List.drop_eq_getElem_cons hk, Uq.hexv]
  rw [Option.isNone_iff_eq_none] at hu
  rw [hu]
theorem hexv_some {H : List UInt8} {k : Nat} {y : Int} (hk : k < H.length) (hu : (Uq.unhex H[k]).isNone = false) : Uq.hexv (H.drop k) y = Uq.hexv (H.drop (k + 1)) (Uq.hexStep y ((Uq.unhex H[k]).getD 0)) := by
  rw [List.drop_eq_getElem_cons hk, Uq.hexv]
  cases h : Uq.unhex H[k] with
  | none => rw [h] at hu; simp at hu
  | some v => rfl

set_option maxHeartbeats 1600000 in
set_option maxRecDepth 20000 in
theorem uc_x (q : UInt8) (s : List UInt8) (w : World) (t : TypeId) (x : Value) (hq : q = 34 ∨ q = 39) (hs : s.length + 2 ≤ 1000000000) (hS : Syn w t x) :
    Calls Tryd.prog 31 #[.string (str (92 :: 120 :: s)), .int .u8 q.toNat] w (UCPost t x w (Uq.ucx s)) := by
  have h1 : ((92 : Int) == (q.toNat : Int)) = false := by rcases hq with rfl | rfl <;> rfl
  clear hq
  have hS' : w.cell? ⟨1, 0, none⟩ = some (.iface t x) := hS
  clear hS
  by_cases hlen : s.length < 2
  · have e : Uq.ucx s = none := by rw [Uq.ucx, if_pos hlen]
    rw [e]; clear e
    go_enter Tryd.func31, Tryd.ntmps31
    go_wp2_with fail
    try simp only [Exit.inBlock, Exit.then]
    refine bodyPost_ret (results_tmp4 rfl _ _ _) rfl ?_
    exact ⟨Below.refl _ _, _, _, _, rfl⟩
  · have e : Hid (Uq.ucx s = match Uq.hexv (s.take 2) 0 with | none => none | some v => some (v, false, s.drop 2)) := by show _ = _; rw [Uq.ucx, if_neg hlen]; rfl
    go_enter Tryd.func31, Tryd.ntmps31
    go_wp2_with fail
    go_loop [7, 13, 14] (fun r v i => ∃ (k : Nat) (y : Int), r = .nilIface ∧ k ≤ 2 ∧ i = .int .i64 k ∧ v = .int .i32 y ∧ Hid (Uq.hexv ((s.take 2).drop k) y = Uq.hexv (s.take 2) 0)) (fun _ _ i => 2 - (intOf i).toNat)
    case atStart => exact ⟨0, 0, rfl, by omega, rfl, rfl, rfl⟩
    case round =>
      obtain ⟨k, y, rfl, hk, rfl, rfl, hq⟩ := hrel
      by_cases hlt : k < 2
      · have hkl : k < s.length := by omega
        have hH : (s.take 2)[k]'(by rw [List.length_take]; omega) = s[k] := by simp
        have hHl : k < (s.take 2).length := by rw [List.length_take]; omega
        have HN : Hid (∀ z, (Uq.unhex s[k]).isNone = true → Uq.hexv ((s.take 2).drop k) z = none) := fun z h => hexv_none hHl (by rw [hH]; exact h)
        have HS : Hid (∀ z, (Uq.unhex s[k]).isNone = false → Uq.hexv ((s.take 2).drop k) z = Uq.hexv ((s.take 2).drop (k + 1)) (Uq.hexStep z ((Uq.unhex s[k]).getD 0))) := fun z h => by
          rw [hexv_some hHl (by rw [hH]; exact h), hH]
        clear hH hHl
        have cU := unhex_calls s[k] w
        go_wp2_with (go_at_call 41; go_fit cU; rintro e w' ⟨rfl, rfl⟩)
        · have hu : (Uq.unhex s[k]).isNone = true := by assumption
          try simp only [Exit.inBlock, Exit.then]
          refine bodyPost_ret (results_tmp4 rfl _ _ _) rfl ?_
          rw [e.out, ← hq.out, HN.out _ hu]
          exact ⟨Below.refl _ _, _, _, _, rfl⟩
        · have hu : (Uq.unhex s[k]).isNone = false := by assumption
          go_round
          case rel =>
            refine ⟨trivial, ?_⟩
            (repeat apply Exists.intro)
            exact ⟨⟨k + 1, _, rfl, by omega, by go_num, rfl, (HS.out _ hu).symm.trans hq.out⟩, rfl⟩
          case measure => simp [intOf]; omega
      · obtain rfl : k = 2 := by omega
        have h0 : Hid (Uq.hexv (s.take 2) 0 = some y) := by
          have h := hq.out
          rw [List.drop_eq_nil_of_le (by rw [List.length_take]; omega)] at h
          exact h.symm
        clear hlt hq
        go_wp2_with fail
        try simp only [Exit.inBlock, Exit.then]
        refine bodyPost_ret (results_tmp4 rfl _ _ _) rfl ?_
        rw [e.out, h0.out]
        exact ⟨Below.refl _ _, by simp⟩

set_option maxHeartbeats 3200000 in
set_option maxRecDepth 20000 in
theorem uc_u (q d : UInt8) (n : Nat) (s : List UInt8) (w : World) (t : TypeId) (x : Value) (hq : q = 34 ∨ q = 39) (hd : d = 117 ∧ n = 4 ∨ d = 85 ∧ n = 8) (hs : s.length + 2 ≤ 1000000000) (hS : Syn w t x) :
    Calls Tryd.prog 31 #[.string (str (92 :: d :: s)), .int .u8 q.toNat] w (UCPost t x w (Uq.ucu n s)) := by
  have h1 : ((92 : Int) == (q.toNat : Int)) = false := by rcases hq with rfl | rfl <;> rfl
  clear hq
  have hS' : w.cell? ⟨1, 0, none⟩ = some (.iface t x) := hS
  clear hS
  rcases hd with ⟨rfl, rfl⟩ | ⟨rfl, rfl⟩
  · by_cases hlen : s.length < 4
    · have e : Uq.ucu 4 s = none := by rw [Uq.ucu, if_pos hlen]
      rw [e]; clear e
      go_enter Tryd.func31, Tryd.ntmps31
      go_wp2_with fail
      try simp only [Exit.inBlock, Exit.then]
      refine bodyPost_ret (results_tmp4 rfl _ _ _) rfl ?_
      exact ⟨Below.refl _ _, _, _, _, rfl⟩
    · have e : Hid (Uq.ucu 4 s = match Uq.hexv (s.take 4) 0 with | none => none | some v => if Lib.validRune v then some (v, true, s.drop 4) else none) := by show _ = _; rw [Uq.ucu, if_neg hlen]; rfl
      go_enter Tryd.func31, Tryd.ntmps31
      go_wp2_with fail
      go_loop [7, 13, 14] (fun r v i => ∃ (k : Nat) (y : Int), r = .nilIface ∧ k ≤ 4 ∧ i = .int .i64 k ∧ v = .int .i32 y ∧ Hid (Uq.hexv ((s.take 4).drop k) y = Uq.hexv (s.take 4) 0)) (fun _ _ i => 4 - (intOf i).toNat)
      case atStart => exact ⟨0, 0, rfl, by omega, rfl, rfl, rfl⟩
      case round =>
        obtain ⟨k, y, rfl, hk, rfl, rfl, hq⟩ := hrel
        by_cases hlt : k < 4
        · have hkl : k < s.length := by omega
          have hH : (s.take 4)[k]'(by rw [List.length_take]; omega) = s[k] := by simp
          have hHl : k < (s.take 4).length := by rw [List.length_take]; omega
          have HN : Hid (∀ z, (Uq.unhex s[k]).isNone = true → Uq.hexv ((s.take 4).drop k) z = none) := fun z h => hexv_none hHl (by rw [hH]; exact h)
          have HS : Hid (∀ z, (Uq.unhex s[k]).isNone = false → Uq.hexv ((s.take 4).drop k) z = Uq.hexv ((s.take 4).drop (k + 1)) (Uq.hexStep z ((Uq.unhex s[k]).getD 0))) := fun z h => by
            rw [hexv_some hHl (by rw [hH]; exact h), hH]
          clear hH hHl
          have cU := unhex_calls s[k] w
          go_wp2_with (go_at_call 41; go_fit cU; rintro e w' ⟨rfl, rfl⟩)
          · have hu : (Uq.unhex s[k]).isNone = true := by assumption
            try simp only [Exit.inBlock, Exit.then]
            refine bodyPost_ret (results_tmp4 rfl _ _ _) rfl ?_
            rw [e.out, ← hq.out, HN.out _ hu]
            exact ⟨Below.refl _ _, _, _, _, rfl⟩
          · have hu : (Uq.unhex s[k]).isNone = false := by assumption
            go_round
            case rel =>
              refine ⟨trivial, ?_⟩
              (repeat apply Exists.intro)
              exact ⟨⟨k + 1, _, rfl, by omega, by go_num, rfl, (HS.out _ hu).symm.trans hq.out⟩, rfl⟩
            case measure => simp [intOf]; omega
        · obtain rfl : k = 4 := by omega
          have h0 : Hid (Uq.hexv (s.take 4) 0 = some y) := by
            have h := hq.out
            rw [List.drop_eq_nil_of_le (by rw [List.length_take]; omega)] at h
            exact h.symm
          clear hlt hq
          have cV := Any.utf8_ValidRune Tryd.lays119 y w
          have E2 : Hid (Uq.ucu 4 s = if Lib.validRune y then some (y, true, s.drop 4) else none) := by show _ = _; rw [e.out, h0.out]
          clear e h0
          generalize Lib.validRune y = vr at cV E2
          go_wp2_with (go_at_call 42; go_fit cV; rintro e w' ⟨rfl, rfl⟩)
          · have hv : vr = false := by
              have h : (!vr) = true := by assumption
              simpa using h
            try simp only [Exit.inBlock, Exit.then]
            refine bodyPost_ret (results_tmp4 rfl _ _ _) rfl ?_
            rw [E2.out, hv]
            exact ⟨Below.refl _ _, _, _, _, rfl⟩
          · have hv : vr = true := by
              have h : (!vr) = false := by assumption
              simpa using h
            try simp only [Exit.inBlock, Exit.then]
            refine bodyPost_ret (results_tmp4 rfl _ _ _) rfl ?_
            rw [E2.out, hv]
            exact ⟨Below.refl _ _, by simp⟩
  · by_cases hlen : s.length < 8
    · have e : Uq.ucu 8 s = none := by rw [Uq.ucu, if_pos hlen]
      rw [e]; clear e
      go_enter Tryd.func31, Tryd.ntmps31
      go_wp2_with fail
      try simp only [Exit.inBlock, Exit.then]
      refine bodyPost_ret (results_tmp4 rfl _ _ _) rfl ?_
      exact ⟨Below.refl _ _, _, _, _, rfl⟩
    · have e : Hid (Uq.ucu 8 s = match Uq.hexv (s.take 8) 0 with | none => none | some v => if Lib.validRune v then some (v, true, s.drop 8) else none) := by show _ = _; rw [Uq.ucu, if_neg hlen]; rfl
      go_enter Tryd.func31, Tryd.ntmps31
      go_wp2_with fail
      go_loop [7, 13, 14] (fun r v i => ∃ (k : Nat) (y : Int), r = .nilIface ∧ k ≤ 8 ∧ i = .int .i64 k ∧ v = .int .i32 y ∧ Hid (Uq.hexv ((s.take 8).drop k) y = Uq.hexv (s.take 8) 0)) (fun _ _ i => 8 - (intOf i).toNat)
      case atStart => exact ⟨0, 0, rfl, by omega, rfl, rfl, rfl⟩
      case round =>
        obtain ⟨k, y, rfl, hk, rfl, rfl, hq⟩ := hrel
        by_cases hlt : k < 8
        · have hkl : k < s.length := by omega
          have hH : (s.take 8)[k]'(by rw [List.length_take]; omega) = s[k] := by simp
          have hHl : k < (s.take 8).length := by rw [List.length_take]; omega
          have HN : Hid (∀ z, (Uq.unhex s[k]).isNone = true → Uq.hexv ((s.take 8).drop k) z = none) := fun z h => hexv_none hHl (by rw [hH]; exact h)
          have HS : Hid (∀ z, (Uq.unhex s[k]).isNone = false → Uq.hexv ((s.take 8).drop k) z = Uq.hexv ((s.take 8).drop (k + 1)) (Uq.hexStep z ((Uq.unhex s[k]).getD 0))) := fun z h => by
            rw [hexv_some hHl (by rw [hH]; exact h), hH]
          clear hH hHl
          have cU := unhex_calls s[k] w
          go_wp2_with (go_at_call 41; go_fit cU; rintro e w' ⟨rfl, rfl⟩)
          · have hu : (Uq.unhex s[k]).isNone = true := by assumption
            try simp only [Exit.inBlock, Exit.then]
            refine bodyPost_ret (results_tmp4 rfl _ _ _) rfl ?_
            rw [e.out, ← hq.out, HN.out _ hu]
            exact ⟨Below.refl _ _, _, _, _, rfl⟩
          · have hu : (Uq.unhex s[k]).isNone = false := by assumption
            go_round
            case rel =>
              refine ⟨trivial, ?_⟩
              (repeat apply Exists.intro)
              exact ⟨⟨k + 1, _, rfl, by omega, by go_num, rfl, (HS.out _ hu).symm.trans hq.out⟩, rfl⟩
            case measure => simp [intOf]; omega
        · obtain rfl : k = 8 := by omega
          have h0 : Hid (Uq.hexv (s.take 8) 0 = some y) := by
            have h := hq.out
            rw [List.drop_eq_nil_of_le (by rw [List.length_take]; omega)] at h
            exact h.symm
          clear hlt hq
          have cV := Any.utf8_ValidRune Tryd.lays119 y w
          have E2 : Hid (Uq.ucu 8 s = if Lib.validRune y then some (y, true, s.drop 8) else none) := by show _ = _; rw [e.out, h0.out]
          clear e h0
          generalize Lib.validRune y = vr at cV E2
          go_wp2_with (go_at_call 42; go_fit cV; rintro e w' ⟨rfl, rfl⟩)
          · have hv : vr = false := by
              have h : (!vr) = true := by assumption
              simpa using h
            try simp only [Exit.inBlock, Exit.then]
            refine bodyPost_ret (results_tmp4 rfl _ _ _) rfl ?_
            rw [E2.out, hv]
            exact ⟨Below.refl _ _, _, _, _, rfl⟩
          · have hv : vr = true := by
              have h : (!vr) = false := by assumption
              simpa using h
            try simp only [Exit.inBlock, Exit.then]
            refine bodyPost_ret (results_tmp4 rfl _ _ _) rfl ?_
            rw [E2.out, hv]
            exact ⟨Below.refl _ _, by simp⟩

end Go.Proofs.Qxb6609089aDoor
