import Derived.Test.Qxb6614395aFmtChecked
import Derived.Test.Qxb6614395aFmtL1
import Derived.WalkKit
import Derived.WalkSpells
import Derived.WalkLawsBesides
import Derived.Handy
import Derived.BigQuiet
import Derived.Deep.QuietTactic
import Derived.Deep.LoopGhost
import Derived.Deep.RegionHeld3
import Derived.Deep.DrawnRows
import Derived.Deep.DeepCutAuto
import Derived.Deep.CutBlock
import Derived.Deep.RegionWith
set_option linter.unusedSimpArgs false
set_option linter.unusedVariables false
namespace Go.Proofs.Qxb6614395aFmt
open Go Go.RowKit Go.Deep

theorem hid_of {p : Prop} (h : p) : Hid p := h

theorem info5 : (Tryf.prog.info? 5).map (·.size) = some 1 := by kernel_rfl

/-- 'copy(dst, s)', s a text, in whatever world: what fits goes over. -/
theorem copy_str (w : World) (ty : TypeId) (h o n cap : Nat) (B l : List UInt8) (hB : SAt h 5 (bcells B) w) (hn : o + n ≤ B.length) (k : Nat) (hk : k = min n l.length) :
    (Builtin.copy_ #[36, 9] ty #[.slice (some ⟨h, o, none⟩) n cap, .string (str l)]).run Tryf.prog w =
      .ok (.int .i64 (k : Int)) (w.setRow h (bcells (B.take o ++ l.take n ++ B.drop (o + k))).toArray) := by
  subst hk
  have hl : (bcells (l.take n)).length = min n l.length := by simp [bcells]
  have hst := run_storeCells_at Tryf.prog h o 5 (bcells (l.take n)) 0 (bcells B).toArray w hB (by rw [hl]; simp [bcells]; omega) (bcells_one _)
  rw [hl] at hst
  simp only [Nat.add_zero] at hst
  have htk : List.take (Nat.min l.length n) (List.map (fun b : UInt8 => Value.int IntKind.u8 (b.toNat : Int)) l) = bcells (l.take n) := by
    unfold bcells
    rw [← List.map_take]
    congr 1
    rcases Nat.le_total l.length n with h | h
    · rw [show Nat.min l.length n = l.length from Nat.min_eq_left h, List.take_of_length_le h, List.take_of_length_le (Nat.le_refl _)]
    · rw [show Nat.min l.length n = n from Nat.min_eq_right h]
  cases hq : Tryf.prog.info? 5 with
  | none => have := info5; rw [hq] at this; cases this
  | some i =>
    have hi : i.size = 1 := by have := info5; rw [hq] at this; simpa using this
    simp [Builtin.copy_, run_underlying Tryf.underlying36, Builtin.lenOf, Builtin.firstCells, sizeOf, typeInfo, hq, hi, str_size, str_data]
    rw [htk, hst]
    simp [Result.andThen, goInt, bcells_append, bcells_take, bcells_drop, Nat.min_comm]

theorem step_copy_str {ops : Array Oper} {o : Oper} {a : Act} {w : World} {K : Act → World → Prop} {Q : Exit → Act → World → Prop} {E : Prop} (hgd : o.guard = none) (d s : Operand)
    (ho : o.op = .call { callee := .builtin .copy, args := #[d, s], argTypes := #[36, 9] }) (h off n cap : Nat) (l : List UInt8) (hd : a.eval d = .slice (some ⟨h, off, none⟩) n cap) (hs : a.eval s = .string (str l))
    (B : List UInt8) (hB : SAt h 5 (bcells B) w) (hn : off + n ≤ B.length) (k : Nat) (hk : k = min n l.length)
    (hK : K (a.put o.dst (.int .i64 (k : Int))) (w.setRow h (bcells (B.take off ++ l.take n ++ B.drop (off + k))).toArray)) :
    if Region.wanted o (yielded ops a.tmps) = true then Oper.wp Tryf.prog o a w K Q else E := by
  have hw : Region.wanted o (yielded ops a.tmps) = true := by simp [Region.wanted, hgd]
  rw [if_pos hw]
  have hrun := copy_str w o.type h off n cap B l hB hn k hk
  unfold Oper.wp
  simp only [execOp, ho, resolve, invoke, builtin, Sem.run_bind, Sem.run_pure, Result.andThen_ok, List.map_toArray, List.map_cons, List.map_nil, hd, hs, hrun]
  exact hK

/-- The strings.Reader's cells. -/
def srC (T : List UInt8) (i : Nat) : List Value := [.string (str T), .int .i64 i, .int .i64 (-1)]

def SRPost (g h : Nat) (T : List UInt8) (i o n k : Nat) (B : List UInt8) (w : World) (e : Ending) (w' : World) : Prop :=
  e = .returned (.tuple #[.int .i64 (k : Int), .nilIface]) ∧ SAt g 78 (srC T (i + k)) w' ∧
    SAt h 5 (bcells (B.take o ++ ((T.drop i).take n ++ B.drop (o + k)))) w' ∧ Only (fun k => k = g ∨ k = h) w w'

attribute [local go_sem] str_size str_get str_extract str_toList str_append

set_option maxHeartbeats 800000 in
theorem sread_end (g : Nat) (T : List UInt8) (i : Nat) (E p : Value) (w : World) (hi : T.length ≤ i) (hT : T.length ≤ 1000000000) (hg : SAt g 78 (srC T i) w) (hE : w.cell? ⟨0, 0, none⟩ = some E) :
    Calls Tryf.prog 99 #[.pointer (some ⟨g, 0, none⟩), p] w fun e w' => e = .returned (.tuple #[.int .i64 0, E]) ∧ Quiet w w' := by
  have c0 := hg.cell (i := 0) rfl
  have c1 := hg.cell (i := 1) rfl
  clear hg
  go_enter Tryf.func99, Tryf.ntmps99
  go_wp2_with fail
  go_quiet (fail)
  go_wp2_with fail
  go_quiet (fail)
  go_wp2_with fail
  go_ret2
  exact ⟨rfl, ((Quiet.refl w).drewN _).drewN _⟩

set_option maxHeartbeats 800000 in
set_option maxRecDepth 20000 in
theorem sread_calls (g h : Nat) (T : List UInt8) (i o n cap : Nat) (B : List UInt8) (w : World) (hi : i < T.length) (hT : T.length ≤ 1000000000) (hgh : g ≠ h) (hg : SAt g 78 (srC T i) w)
    (hB : SAt h 5 (bcells B) w) (hn : o + n ≤ B.length) (k : Nat) (hk : k = min n (T.length - i)) :
    Calls Tryf.prog 99 #[.pointer (some ⟨g, 0, none⟩), .slice (some ⟨h, o, none⟩) n cap] w (SRPost g h T i o n k B w) := by
  have c0 := hg.cell (i := 0) rfl
  have c1 := hg.cell (i := 1) rfl
  have c2 := hg.cell (i := 2) rfl
  have f1 := hg.frozen 1
  have f2 := hg.frozen 2
  have hs := fun k => (hg.drewN k).setSelf (i := 2) rfl
  have H := hid_of hg
  have HB := hid_of hB
  have hik : i + k ≤ T.length := by omega
  have HK : Hid (k = min n (T.drop i).length) := by show _ = _; rw [hk]; simp
  have hcp := fun m => copy_str (w.drewN m) 3 h o n cap B (T.drop i) (HB.out.drewN m) hn k HK.out
  have hi1 : (0 : Int) ≤ (i : Int) := by omega
  have hi2 : (i : Int) ≤ (T.length : Int) := by omega
  clear hg hB hk
  go_enter Tryf.func99, Tryf.ntmps99
  go_wp2_with fail
  go_quiet (fail)
  go_wp2_with fail
  go_region_held3 (fun w' => w'.cell? ⟨g, 0, none⟩ = some (.string (str T)) ∧ w'.cell? ⟨g, 1, none⟩ = some (.int .i64 i)) (first | go_keep | (refine ⟨?_, ?_⟩ <;> rw [cell_setRow_other _ _ _ _ hgh] <;> assumption)) (fail)
  have f1' : ∀ m c, ((w.drewN m).setRow h c).frozen? ⟨g, 1, none⟩ = false := fun m c => ((H.out.drewN m).rowOther hgh c).frozen 1
  have c1' : ∀ m c, ((w.drewN m).setRow h c).cell? ⟨g, 1, none⟩ = some (.int .i64 i) := fun m c => ((H.out.drewN m).rowOther hgh c).cell rfl
  all_goals go_wp2_with fail
  all_goals go_ret2
  refine ⟨rfl, ?_, ?_, ?_⟩
  · exact ((H.out.drewN _).rowOther hgh _).set' 1 _ (by simp [srC])
  · exact ((HB.out.drewN _).row _).other (Ne.symm hgh) _
  · exact (((Only.refl _ w).drewN _).setRow (.inl (.inr rfl)) _).setCell (.inl (.inl rfl)) _
end Go.Proofs.Qxb6614395aFmt
