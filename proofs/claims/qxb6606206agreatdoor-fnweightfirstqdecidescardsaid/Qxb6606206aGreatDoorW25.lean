import Derived.Test.Qxb6606206aGreatDoorW24
import Derived.Laws.RangeAny
set_option linter.unusedSimpArgs false
set_option linter.unusedVariables false
namespace Go
/-- As Q; by a goto to label 0: what stands behind the label is run, and no more gotos. -/
def Exit.go1 (P : Program) (r0 : Code) (Q : Exit → Act → World → Prop) : Exit → Act → World → Prop
  | .goto l, a, w => l = 0 ∧ r0.wp P (Exit.noGoto Q) a w
  | e, a, w => Q e a w
section
variable {P : Program} {a : Act} {w : World} {Q : Exit → Act → World → Prop}
theorem wp_scope_one {c r0 : Code} (h0 : findLabel c 0 = some r0) (first : c.wp P (Exit.go1 P r0 Q) a w) : (Code.scope c).wp P Q a w := by
  intro b k cs
  obtain ⟨e, a₁, w₁, hq, harr⟩ := first b (.inScope c :: k) cs
  cases e with
  | normal => exact ⟨.normal, a₁, w₁, hq, .head step_scope (Steps.trans harr (.one step_inScope))⟩
  | exit id => exact ⟨.exit id, a₁, w₁, hq, fun k' hk => .head step_scope (harr k' (by simp [exitTo, hk]))⟩
  | goto l' =>
    obtain ⟨rfl, hJ⟩ := hq
    obtain ⟨e, a₂, w₂, hq, harr₂⟩ := hJ b (.inScope c :: k) cs
    have key : ∃ e a' w', Q e a' w' ∧ Arrives P (lone (b.at a₁ (.code r0 :: .inScope c :: k)) cs w₁) b k cs e a' w' := by
      cases e with
      | normal => exact ⟨.normal, a₂, w₂, hq, Steps.trans harr₂ (.one step_inScope)⟩
      | exit id => exact ⟨.exit id, a₂, w₂, hq, fun k' hk => harr₂ k' (by simp [exitTo, hk])⟩
      | goto l' => exact hq.elim
      | ret => exact ⟨_, a₂, w₂, hq, harr₂⟩
      | panic ch => exact ⟨_, a₂, w₂, hq, harr₂⟩
      | outgrown => exact ⟨_, a₂, w₂, hq, harr₂⟩
    obtain ⟨e₃, a₃, w₃, hq₃, harr₃⟩ := key
    exact ⟨e₃, a₃, w₃, hq₃, .of_steps (.head step_scope (harr _ (by simp [gotoIn, h0]))) harr₃⟩
  | ret => exact ⟨_, a₁, w₁, hq, .of_steps (.one step_scope) harr⟩
  | panic ch => exact ⟨_, a₁, w₁, hq, .of_steps (.one step_scope) harr⟩
  | outgrown => exact ⟨_, a₁, w₁, hq, .of_steps (.one step_scope) harr⟩
end
end Go
namespace Go.Proofs.Qxb6606206aGreatDoor
open Go Go.RowKit
attribute [local go_sem] str_size str_get str_extract str_toList str_append

/-- Two rows of asciiFold. -/
structure AF (w : World) : Prop where
  q : w.cell? ⟨0, 113, none⟩ = some (.int .u16 81)
  Q : w.cell? ⟨0, 81, none⟩ = some (.int .u16 113)
theorem AF.below {w w' : World} (h : AF w) (hb : Below w.heap.size w w') : AF w' :=
  have h0 := World.block_lt_of_cell? w _ h.q
  ⟨(hb.cell (p := ⟨0, 113, none⟩) h0).trans h.q, (hb.cell (p := ⟨0, 81, none⟩) h0).trans h.Q⟩

set_option maxHeartbeats 1600000 in
set_option maxRecDepth 20000 in
theorem sf_q (w : World) (h : AF w) : Calls Tryz.prog 29 #[.int .i32 113] w fun e w' => e = .returned (.int .i32 81) ∧ w' = w := by
  have c := h.q
  clear h
  go_enter Tryz.func29, Tryz.ntmps29
  go_wp2_with fail
  go_ret
  exact ⟨rfl, rfl⟩
set_option maxHeartbeats 1600000 in
set_option maxRecDepth 20000 in
theorem sf_Q (w : World) (h : AF w) : Calls Tryz.prog 29 #[.int .i32 81] w fun e w' => e = .returned (.int .i32 113) ∧ w' = w := by
  have c := h.Q
  clear h
  go_enter Tryz.func29, Tryz.ntmps29
  go_wp2_with fail
  go_ret
  exact ⟨rfl, rfl⟩
set_option maxHeartbeats 1600000 in
set_option maxRecDepth 20000 in
theorem dec_q (w : World) : Calls Tryz.prog 28 #[.string (str [113])] w fun e w' => e = .returned (.tuple #[.int .i32 113, .int .i64 1]) ∧ w' = w := by
  go_enter Tryz.func28, Tryz.ntmps28
  go_wp2_with fail
  go_ret2
  exact ⟨rfl, rfl⟩

set_option maxHeartbeats 6400000 in
set_option maxRecDepth 20000 in
theorem fold_high (c : UInt8) (t : List UInt8) (hc : 128 ≤ c.toNat) (hl : t.length + 1 ≤ 1000000000) (w : World) (hA : AF w) : Calls Tryz.prog 21 #[.string (str (c :: t)), .string (str [113])] w (EqP w false) := by
  have hmin : ∀ (ts : Array TypeId) (ty : TypeId) (w : World), (Builtin.min_ ts ty #[.int .i64 ((t.length : Int) + 1), .int .i64 1]).run Tryz.prog w = .ok (.int .i64 1) w := fun ts ty w => by
    rw [run_min_int2]
    congr 2
    split <;> omega
  have hc8 := UInt8.toNat_lt c
  have hor : bits .or .u8 (c.toNat : Int) 113 ≥ 128 := by
    rw [u8_or _ _ (by omega) (by omega) (by omega) (by omega)]
    have : c.toNat ≤ (c.toNat ||| 113) := Nat.left_le_or
    simp only [Int.toNat_natCast]
    have e : (113 : Int).toNat = 113 := rfl
    rw [e]
    omega
  have hsz : 0 < (str (c :: t)).size := by rw [str_size]; simp
  have hdh := decode_high (str (c :: t)) 0 hsz (by rw [str_get]; exact hc)
  have hdl := decode_le (str (c :: t)) 0
  have hnx : ∀ ty, (Instr.next (.pointer (some ⟨w.heap.size, 0, none⟩)) true ty).run Tryz.prog (w.iter (str (c :: t)) 0) = _ := fun ty => run_next_any (P := Tryz.prog) w (str (c :: t)) 0 ty hsz
  generalize (Utf8.decode (str (c :: t)) 0).1 = D at hdh hdl hnx
  generalize 0 + (Utf8.decode (str (c :: t)) 0).2 = K at hnx
  have hb1 := hid_of ((Below.refl w.heap.size w).alloc (Nat.le_refl _) (.stringIter (str (c :: t)) K))
  have hA1 : AF (w.iter (str (c :: t)) K) := hA.below hb1.out
  have cq := sf_q _ hA1
  have cQ := sf_Q _ hA1
  have cD := dec_q (w.iter (str (c :: t)) K)
  obtain ⟨hd1, -⟩ := hdh
  clear hA hA1 hsz
  go_enter Tryz.func21, Tryz.ntmps21
  go_wp2_with fail
  refine wp_scope_one rfl ?_
  go_wp2_with fail
  go_loopw [5] (fun v5 wr => v5 = .int .i64 0 ∧ wr = w) (fun _ _ => 0)
  case atStart => exact ⟨rfl, rfl⟩
  case round =>
    obtain ⟨rfl, hwr⟩ := hrel
    have hwr' := hwr.symm
    subst hwr'
    clear hwr
    go_wp2_with fail
    go_step3
    simp only [Exit.then, Exit.inBlock, Exit.go1]
    refine ⟨by trivial, ?_⟩
    go_wp2_with fail
    have hDne : ((113 : Int) == (D : Int)) = false := by rw [beq_eq_false_iff_ne]; omega
    have hD1 : (113 : Int) < (D : Int) := by omega
    have hD2 : ¬ ((D : Int) < 128) := by omega
    have hD3 : (81 : Int) < (D : Int) := by omega
    go_loopw [1] (fun v1 wr => v1 = .string (str [113]) ∧ wr = w.iter (str (c :: t)) 0) (fun _ _ => 0)
    case atStart => exact ⟨rfl, rfl⟩
    case round =>
      obtain ⟨rfl, hwr⟩ := hrel
      subst hwr
      go_wp2_with (first | (go_at_call 28; go_fit cD; rintro e w' ⟨rfl, hww⟩; rw [hww]; clear hww) | (go_at_call 29; go_fit cq; rintro e w' ⟨rfl, hww⟩; rw [hww]; clear hww))
      go_loopw [13] (fun v13 wr => ∃ x : Int, v13 = .int .i32 x ∧ (x = 81 ∨ x = 113) ∧ wr = w.iter (str (c :: t)) K) (fun v _ => if intOf v = 81 then 1 else 0)
      case atStart => exact ⟨81, rfl, .inl rfl, rfl⟩
      case round =>
        obtain ⟨x, rfl, hx, hwr⟩ := hrel
        subst hwr
        rcases hx with rfl | rfl
        · go_wp2_with (go_at_call 29; go_fit cQ; rintro e w' ⟨rfl, hww⟩; rw [hww]; clear hww)
          exact ⟨⟨113, rfl, .inr rfl, by trivial⟩, by simp [intOf]⟩
        · go_wp2_with fail
          try simp only [Exit.noGoto_ret]
          go_ret
          exact ⟨rfl, hb1.out⟩

/-- strings.EqualFold(x, "q"). -/
theorem fold_calls (x : List UInt8) (hl : x.length ≤ 1000000000) (w : World) (hA : AF w) : Calls Tryz.prog 21 #[.string (str x), .string (str [113])] w (EqP w (isQ x)) := by
  cases x with
  | nil => exact fold_nil w
  | cons c t =>
    have hl' : t.length + 1 ≤ 1000000000 := by simpa using hl
    by_cases hc : c.toNat < 128
    · exact fold_ascii c t hc hl' w
    · have e : isQ (c :: t) = false := by
        rw [isQ_one]
        have : ¬ (c = 113 ∨ c = 81) := by
          rintro (rfl | rfl) <;> exact hc (by decide)
        simp [this]
      rw [e]
      exact fold_high c t (by omega) hl' w hA
end Go.Proofs.Qxb6606206aGreatDoor
