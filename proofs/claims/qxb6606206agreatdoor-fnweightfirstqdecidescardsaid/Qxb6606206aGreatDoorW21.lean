import Derived.Test.Qxb6606206aGreatDoorW6
import Derived.Test.Qxb6606206aGreatDoorW13
import Derived.Test.Qxb6606206aGreatDoorW16
import Derived.Test.Qxb6606206aGreatDoorW19
import Derived.Test.Qxb6606206aGreatDoorW20
set_option linter.unusedSimpArgs false
set_option linter.unusedVariables false
namespace Go.Proofs.Qxb6606206aGreatDoor
open Go Go.RowKit
attribute [local go_sem] frombits_run str_size str_get str_extract str_toList str_append

/-- All the tables on ParseFloat's road. -/
structure TB (w : World) (fb fo fc pb po pc blk o cap : Nat) : Prop where
  p10 : P10 w
  fp : FP w fb fo fc
  ft : FT w w.heap.size pb po pc blk o cap
  two : Two w
  opt : w.cell? ⟨9, 0, none⟩ = some (.bool true)

def APost (w : World) (f : Nat) (n : Nat) (err : Value) (e : Ending) (w' : World) : Prop := e = .returned (.tuple #[.float .f64 f, .int .i64 n, err]) ∧ Below w.heap.size w w'
/-- What atof64 gives: one float, one count, one error. -/
def A64 (l : List UInt8) : Prop := ∃ f n err, Err err ∧ ∀ (fb fo fc pb po pc blk o cap : Nat) (w : World), TB w fb fo fc pb po pc blk o cap → Calls Tryz.prog 63 #[.string (str l)] w (APost w f n err)

theorem rfAll (l : List UInt8) (hl : l.length ≤ 1000000000) : Gives 72 #[.string (str l)] (rf uokF l).val := by
  cases l with
  | nil => exact rf_nil
  | cons c t => exact rf_gives c t hl
theorem setAll (g B : Nat) (hB : B ≤ g) (l : List UInt8) (hl : l.length ≤ 1000000000) (w : World) (h : DAt w g dc0) : Calls Tryz.prog 78 #[.pointer (some ⟨g, 0, none⟩), .string (str l)] w (SetP B g w (st l)) := by
  cases l with
  | nil => exact set_nil g B hB w h
  | cons c t => exact set_calls g B hB c t hl w h

/-- The two ways that go no further than readFloat. -/
def Rest (l : List UInt8) (r : RF) : Prop := Gives 71 #[.string (str l)] (.tuple #[.float .f64 0, .int .i64 0, .bool false]) ∧ Gives 72 #[.string (str l)] r.val

set_option maxHeartbeats 6400000 in
set_option maxRecDepth 20000 in
theorem a_spec (l : List UInt8) (f n : Nat) (c71 : Gives 71 #[.string (str l)] (.tuple #[.float .f64 f, .int .i64 n, .bool true])) : A64 l := by
  refine ⟨f, n, .nilIface, .inl rfl, fun fb fo fc pb po pc blk o cap w hT => ?_⟩
  clear hT
  go_enter Tryz.func63, Tryz.ntmps63
  go_wp2_with (go_at_call 71; go_fit (c71 _); rintro e w' ⟨rfl, rfl⟩)
  go_ret3
  exact ⟨rfl, Below.refl _ _⟩

set_option maxHeartbeats 6400000 in
set_option maxRecDepth 20000 in
theorem a_bad (l : List UInt8) (f0 n0 : Nat) (r : RF) (c71 : Gives 71 #[.string (str l)] (.tuple #[.float .f64 f0, .int .i64 n0, .bool false])) (c72 : Gives 72 #[.string (str l)] r.val) (hok : r.ok = false) : A64 l := by
  refine ⟨0, r.n, .iface 65 (.int .i64 2), .inr (.inr rfl), fun fb fo fc pb po pc blk o cap w hT => ?_⟩
  obtain ⟨m, p, neg, tr, hex, n, ok⟩ := r
  simp only [] at hok
  subst hok
  unfold RF.val at c72
  simp only [] at c72
  clear hT
  go_enter Tryz.func63, Tryz.ntmps63
  go_wp2_with (first | (go_at_call 71; go_fit (c71 _); rintro e w' ⟨rfl, rfl⟩) | (go_at_call 72; go_fit (c72 _); rintro e w' ⟨rfl, rfl⟩))
  go_ret3
  exact ⟨rfl, Below.refl _ _⟩

set_option maxHeartbeats 6400000 in
set_option maxRecDepth 20000 in
theorem a_hex (l : List UInt8) (hl : l.length ≤ 1000000000) (f0 n0 : Nat) (m p : Int) (neg tr : Bool) (n : Nat) (hR : RFok l.length ⟨m, p, neg, tr, true, n, true⟩) (c71 : Gives 71 #[.string (str l)] (.tuple #[.float .f64 f0, .int .i64 n0, .bool false])) (c72 : Gives 72 #[.string (str l)] (RF.val ⟨m, p, neg, tr, true, n, true⟩)) : A64 l := by
  obtain ⟨m0, m1, p0, p1, hn⟩ := hR
  simp only [] at m0 m1 p0 p1 hn
  obtain ⟨f, ov, cH⟩ := hex_gives m p neg tr m0 m1 (by omega) (by omega)
  unfold RF.val at c72
  simp only [] at c72
  obtain ⟨E, hE⟩ : ∃ E : Value, (if ov then (.iface 65 (.int .i64 1) : Value) else .nilIface) = E := ⟨_, rfl⟩
  refine ⟨f.toNat, n, E, ?_, fun fb fo fc pb po pc blk o cap w hT => ?_⟩
  · rw [← hE]
    split
    · exact .inr (.inl rfl)
    · exact .inl rfl
  have c73 : Calls Tryz.prog 73 #[.string (str (l.take n)), .pointer (some ⟨10, 0, none⟩), .int .u64 m, .int .i64 p, .bool neg, .bool tr] w fun e w' => e = .returned (.tuple #[.float .f64 f.toNat, E]) ∧ Below w.heap.size w w' := by
    rw [← hE]; exact cH (str (l.take n)) w hT.ft.i0 hT.ft.i1 hT.ft.i2 hT.two
  clear cH hE hT
  go_enter Tryz.func63, Tryz.ntmps63
  go_wp2_with (first | (go_at_call 71; go_fit (c71 _); rintro e w' ⟨rfl, rfl⟩) | (go_at_call 72; go_fit (c72 _); rintro e w' ⟨rfl, rfl⟩) | (go_at_call 73; go_fit c73; rintro e w' ⟨rfl, hb⟩))
  go_ret3
  exact ⟨rfl, hb⟩

/-- The sign's bit. -/
def sgB (b : Bool) : Int := if b then 1 else 0
def sgS (b : Bool) : Int := if b then 9223372036854775808 else 0
theorem sg_gives (b : Bool) : Gives 80 #[.bool b] (.int .u64 (sgB b)) := bool2_gives b
theorem sg_shl (b : Bool) : IntKind.u64.wrap (sgB b * 9223372036854775808) = sgS b := by cases b <;> decide

set_option maxHeartbeats 6400000 in
set_option maxRecDepth 20000 in
/-- Where neither the exact way nor the slow one is wanted. -/
theorem a_easy (l : List UInt8) (f0 n0 : Nat) (m p : Int) (neg tr : Bool) (n : Nat) (hm : m = 0 ∨ p > 310 ∨ p < -345) (c71 : Gives 71 #[.string (str l)] (.tuple #[.float .f64 f0, .int .i64 n0, .bool false])) (c72 : Gives 72 #[.string (str l)] (RF.val ⟨m, p, neg, tr, false, n, true⟩)) : A64 l := by
  unfold RF.val at c72
  simp only [] at c72
  have cB := sg_gives neg
  have hsh := sg_shl neg
  generalize sgB neg = B1 at cB hsh
  generalize sgS neg = S at hsh
  by_cases h0 : m = 0
  · subst h0
    refine ⟨(bits .or .u64 S 0).toNat, n, .nilIface, .inl rfl, fun fb fo fc pb po pc blk o cap w hT => ?_⟩
    have topt := hT.opt
    clear hT hm
    go_enter Tryz.func63, Tryz.ntmps63
    go_wp2_with (first | (go_at_call 71; go_fit (c71 _); rintro e w' ⟨rfl, rfl⟩) | (go_at_call 72; go_fit (c72 _); rintro e w' ⟨rfl, rfl⟩) | (go_at_call 80; go_fit (cB _); rintro e w' ⟨rfl, rfl⟩))
    go_ret3
    exact ⟨rfl, Below.refl _ _⟩
  · have h0' : (m == 0) = false := beq_eq_false_iff_ne.2 h0
    by_cases h1 : p > 310
    · refine ⟨(bits .or .u64 S 9218868437227405312).toNat, n, .iface 65 (.int .i64 1), .inr (.inl rfl), fun fb fo fc pb po pc blk o cap w hT => ?_⟩
      have topt := hT.opt
      clear hT hm
      go_enter Tryz.func63, Tryz.ntmps63
      go_wp2_with (first | (go_at_call 71; go_fit (c71 _); rintro e w' ⟨rfl, rfl⟩) | (go_at_call 72; go_fit (c72 _); rintro e w' ⟨rfl, rfl⟩) | (go_at_call 80; go_fit (cB _); rintro e w' ⟨rfl, rfl⟩))
      go_ret3
      exact ⟨rfl, Below.refl _ _⟩
    · have h2 : p < -345 := by omega
      refine ⟨(bits .or .u64 S 0).toNat, n, .nilIface, .inl rfl, fun fb fo fc pb po pc blk o cap w hT => ?_⟩
      have topt := hT.opt
      clear hT hm
      go_enter Tryz.func63, Tryz.ntmps63
      go_wp2_with (first | (go_at_call 71; go_fit (c71 _); rintro e w' ⟨rfl, rfl⟩) | (go_at_call 72; go_fit (c72 _); rintro e w' ⟨rfl, rfl⟩) | (go_at_call 80; go_fit (cB _); rintro e w' ⟨rfl, rfl⟩))
      go_ret3
      exact ⟨rfl, Below.refl _ _⟩

theorem Err.cases' {v : Value} (h : Err v) : v = .nilIface ∨ ∃ k, v = .iface 65 (.int .i64 k) := by
  rcases h with h | h | h
  · exact .inl h
  · exact .inr ⟨1, h⟩
  · exact .inr ⟨2, h⟩

set_option maxHeartbeats 6400000 in
set_option maxRecDepth 20000 in
/-- Not cut off: the exact way, or the fast one. -/
theorem a_fast (l : List UInt8) (f0 n0 : Nat) (m p : Int) (neg : Bool) (n : Nat) (m0 : 0 ≤ m) (m1 : m ≤ 18446744073709551615) (hm : m ≠ 0) (hp1 : p ≤ 310) (hp0 : -345 ≤ p) (c71 : Gives 71 #[.string (str l)] (.tuple #[.float .f64 f0, .int .i64 n0, .bool false])) (c72 : Gives 72 #[.string (str l)] (RF.val ⟨m, p, neg, false, false, n, true⟩)) : A64 l := by
  unfold RF.val at c72
  simp only [] at c72
  have cB := sg_gives neg
  have hsh := sg_shl neg
  generalize sgB neg = B1 at cB hsh
  generalize sgS neg = S at hsh
  have h0' : (m == 0) = false := beq_eq_false_iff_ne.2 hm
  obtain ⟨fx, ok, cX⟩ := exact_gives m p neg m0 m1
  cases ok with
  | true =>
    refine ⟨fx, n, .nilIface, .inl rfl, fun fb fo fc pb po pc blk o cap w hT => ?_⟩
    have topt := hT.opt
    have cX' := cX fb fo fc w hT.fp
    clear hT cX
    go_enter Tryz.func63, Tryz.ntmps63
    go_wp2_with (first | (go_at_call 71; go_fit (c71 _); rintro e w' ⟨rfl, rfl⟩) | (go_at_call 72; go_fit (c72 _); rintro e w' ⟨rfl, rfl⟩) | (go_at_call 80; go_fit (cB _); rintro e w' ⟨rfl, rfl⟩) | (go_at_call 82; go_fit cX'; rintro e w' ⟨rfl, rfl⟩))
    go_ret3
    exact ⟨rfl, Below.refl _ _⟩
  | false =>
    obtain ⟨f, err, herr, cP⟩ := pf64_gives m p S m0 m1 hp0 hp1
    refine ⟨f, n, err, herr, fun fb fo fc pb po pc blk o cap w hT => ?_⟩
    have topt := hT.opt
    have cX' := cX fb fo fc w hT.fp
    have cP' := cP w hT.p10
    clear hT cX cP
    go_enter Tryz.func63, Tryz.ntmps63
    go_wp2_with (first | (go_at_call 71; go_fit (c71 _); rintro e w' ⟨rfl, rfl⟩) | (go_at_call 72; go_fit (c72 _); rintro e w' ⟨rfl, rfl⟩) | (go_at_call 80; go_fit (cB _); rintro e w' ⟨rfl, rfl⟩) | (go_at_call 82; go_fit cX'; rintro e w' ⟨rfl, rfl⟩) | (go_at_call 83; go_fit cP'; rintro e w' ⟨rfl, hb⟩))
    go_ret3
    exact ⟨rfl, hb⟩
end Go.Proofs.Qxb6606206aGreatDoor
