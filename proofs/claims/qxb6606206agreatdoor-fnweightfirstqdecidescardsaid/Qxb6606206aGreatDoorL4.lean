import Derived.Test.Qxb6606206aGreatDoorL3
set_option linter.unusedSimpArgs false
set_option linter.unusedVariables false
namespace Go.Proofs.Qxb6606206aGreatDoor
open Go Go.RowKit

/-- The byte at a place, 0 beyond the end. -/
def gt (l : List UInt8) (i : Nat) : Int := ((l[i]?).getD 0).toNat
theorem gt_eq {l : List UInt8} {i : Nat} (h : i < l.length) : gt l i = (l[i].toNat : Int) := by
  unfold gt; rw [List.getElem?_eq_getElem h]; rfl

/-- What readFloat's first loop carries. -/
structure RS where
  m : Int
  tr : Bool
  und : Bool
  dot : Bool
  dig : Bool
  nd : Nat
  ndm : Nat
  dp : Int
def bas (hex : Bool) : Int := if hex then 16 else 10
def mxm (hex : Bool) : Nat := if hex then 16 else 19
def expc (hex : Bool) : Int := if hex then 112 else 101
/-- One byte: the next state, or the loop ends. -/
def rstep (hex : Bool) (c : Int) (s : RS) : Option RS :=
  if c = 95 then some { s with und := true }
  else if c = 46 then (if s.dot then none else some { s with dot := true, dp := s.nd })
  else if 48 ≤ c ∧ c ≤ 57 then
    (if c = 48 ∧ s.nd = 0 then some { s with dig := true, dp := s.dp - 1 }
     else if s.ndm < mxm hex then some { s with dig := true, nd := s.nd + 1, m := IntKind.u64.wrap (IntKind.u64.wrap (s.m * bas hex) + (c - 48)), ndm := s.ndm + 1 }
     else if c = 48 then some { s with dig := true, nd := s.nd + 1 } else some { s with dig := true, nd := s.nd + 1, tr := true })
  else if hex = true ∧ 97 ≤ lowI c ∧ lowI c ≤ 102 then
    (if s.ndm < mxm hex then some { s with dig := true, nd := s.nd + 1, m := IntKind.u64.wrap (IntKind.u64.wrap (s.m * 16) + (lowI c - 97 + 10)), ndm := s.ndm + 1 }
     else some { s with dig := true, nd := s.nd + 1, tr := true })
  else none
def rl (hex : Bool) : List UInt8 → Nat → RS → RS × Nat
  | [], i, s => (s, i)
  | c :: t, i, s => match rstep hex c.toNat s with
    | some s' => rl hex t (i + 1) s'
    | none => (s, i)
theorem rl_some {hex : Bool} {l : List UInt8} {i : Nat} {s s' : RS} (h : i < l.length) (e : rstep hex l[i].toNat s = some s') : rl hex (l.drop i) i s = rl hex (l.drop (i + 1)) (i + 1) s' := by
  rw [List.drop_eq_getElem_cons h, rl, e]
theorem rl_none {hex : Bool} {l : List UInt8} {i : Nat} {s : RS} (h : i < l.length) (e : rstep hex l[i].toNat s = none) : rl hex (l.drop i) i s = (s, i) := by
  rw [List.drop_eq_getElem_cons h, rl, e]
theorem rl_end {hex : Bool} {l : List UInt8} {i : Nat} {s : RS} (h : l.length ≤ i) : rl hex (l.drop i) i s = (s, i) := by
  rw [List.drop_eq_nil_of_le h, rl]
/-- What the loop keeps. -/
structure RSok (i : Nat) (s : RS) : Prop where
  m0 : 0 ≤ s.m
  m1 : s.m ≤ 18446744073709551615
  nd : s.nd ≤ i
  ndm : s.ndm ≤ 20
  dp0 : -(i : Int) ≤ s.dp
  dp1 : s.dp ≤ i

/-- The exponent's digits. -/
def el : List UInt8 → Nat → Int → Bool → Nat × Int × Bool
  | [], i, e, und => (i, e, und)
  | c :: t, i, e, und =>
    if (c.toNat : Int) = 95 then el t (i + 1) e true
    else if 48 ≤ (c.toNat : Int) ∧ (c.toNat : Int) ≤ 57 then el t (i + 1) (if e < 10000 then e * 10 + c.toNat - 48 else e) und
    else (i, e, und)
theorem el_drop {l : List UInt8} {i : Nat} (h : i < l.length) (e : Int) (und : Bool) : el (l.drop i) i e und =
    if (l[i].toNat : Int) = 95 then el (l.drop (i + 1)) (i + 1) e true
    else if 48 ≤ (l[i].toNat : Int) ∧ (l[i].toNat : Int) ≤ 57 then el (l.drop (i + 1)) (i + 1) (if e < 10000 then e * 10 + l[i].toNat - 48 else e) und
    else (i, e, und) := by
  rw [List.drop_eq_getElem_cons h]; rfl
theorem el_end {l : List UInt8} {i : Nat} (h : l.length ≤ i) (e : Int) (und : Bool) : el (l.drop i) i e und = (i, e, und) := by
  rw [List.drop_eq_nil_of_le h, el]

/-- What readFloat hands back. -/
structure RF where
  m : Int
  p : Int
  neg : Bool
  tr : Bool
  hex : Bool
  n : Nat
  ok : Bool
def RF.val (r : RF) : Value := .tuple #[.int .u64 r.m, .int .i64 r.p, .bool r.neg, .bool r.tr, .bool r.hex, .int .i64 r.n, .bool r.ok]

variable (uok : List UInt8 → Bool)
def rf5 (l : List UInt8) (neg hex : Bool) (m : Int) (tr : Bool) (i : Nat) (und : Bool) (ndm dp : Int) : RF :=
  ⟨m, if m = 0 then 0 else dp - ndm, neg, tr, hex, i, !(und && !(uok (l.take i)))⟩
/-- Behind the exponent's sign. -/
def rf4 (l : List UInt8) (neg hex : Bool) (m : Int) (tr : Bool) (i : Nat) (und : Bool) (ndm dp sg : Int) : RF :=
  if i < l.length ∧ 48 ≤ gt l i ∧ gt l i ≤ 57 then
    rf5 uok l neg hex m tr (el (l.drop i) i 0 und).1 (el (l.drop i) i 0 und).2.2 ndm (dp + (el (l.drop i) i 0 und).2.1 * sg)
  else ⟨m, 0, neg, tr, hex, i, false⟩
/-- At the exponent. -/
def rf3 (l : List UInt8) (neg hex : Bool) (m : Int) (tr : Bool) (i : Nat) (und : Bool) (ndm dp : Int) : RF :=
  if i < l.length ∧ lowI (gt l i) = expc hex then
    (if i + 1 < l.length then
      (if gt l (i + 1) = 43 then rf4 uok l neg hex m tr (i + 2) und ndm dp 1
       else if gt l (i + 1) = 45 then rf4 uok l neg hex m tr (i + 2) und ndm dp (-1)
       else rf4 uok l neg hex m tr (i + 1) und ndm dp 1)
     else ⟨m, 0, neg, tr, hex, i + 1, false⟩)
  else if hex then ⟨m, 0, neg, tr, hex, i, false⟩
  else rf5 uok l neg hex m tr i und ndm dp
/-- Behind the first loop. -/
def rf2 (l : List UInt8) (neg hex : Bool) (s : RS) (i : Nat) : RF :=
  if s.dig then rf3 uok l neg hex s.m s.tr i s.und ((s.ndm : Int) * (if hex then 4 else 1)) ((if s.dot then s.dp else s.nd) * (if hex then 4 else 1))
  else ⟨s.m, 0, neg, s.tr, hex, i, false⟩
/-- At the first loop. -/
def rf1 (l : List UInt8) (neg hex : Bool) (i : Nat) : RF :=
  rf2 uok l neg hex (rl hex (l.drop i) i ⟨0, false, false, false, false, 0, 0, 0⟩).1 (rl hex (l.drop i) i ⟨0, false, false, false, false, 0, 0, 0⟩).2
def isHex (l : List UInt8) (i : Nat) : Bool := decide (i + 2 < l.length) && gt l i == 48 && lowI (gt l (i + 1)) == 120
def rf0 (l : List UInt8) (neg : Bool) (i : Nat) : RF := rf1 uok l neg (isHex l i) (if isHex l i then i + 2 else i)
def rf : List UInt8 → RF
  | [] => ⟨0, 0, false, false, false, 0, false⟩
  | c :: t => if c = 43 then rf0 uok (c :: t) false 1 else if c = 45 then rf0 uok (c :: t) true 1 else rf0 uok (c :: t) false 0

theorem wrapu_ok (n : Int) : 0 ≤ IntKind.u64.wrap n ∧ IntKind.u64.wrap n ≤ 18446744073709551615 := wrap_within .u64 n
theorem rstep_ok {hex : Bool} {c : Int} {i : Nat} {s s' : RS} (hs : RSok i s) (e : rstep hex c s = some s') : RSok (i + 1) s' := by
  obtain ⟨m0, m1, nd, ndm, dp0, dp1⟩ := hs
  unfold rstep at e
  have hmx : mxm hex ≤ 19 := by unfold mxm; split <;> omega
  repeat' split at e
  all_goals first | (cases e; done) | skip
  all_goals
    simp only [Option.some.injEq] at e
    subst e
    refine ⟨?_, ?_, ?_, ?_, ?_, ?_⟩
    all_goals simp only []
    all_goals first | omega | exact (wrapu_ok _).1 | exact (wrapu_ok _).2
theorem rl_ok (hex : Bool) : ∀ (l : List UInt8) (i : Nat) (s : RS), RSok i s → RSok (rl hex l i s).2 (rl hex l i s).1 ∧ i ≤ (rl hex l i s).2 ∧ (rl hex l i s).2 ≤ i + l.length
  | [], i, s, h => ⟨h, Nat.le_refl _, by simp [rl]⟩
  | c :: t, i, s, h => by
    unfold rl
    split
    · rename_i s' e
      have := rl_ok hex t (i + 1) s' (rstep_ok h e)
      refine ⟨this.1, by omega, ?_⟩
      rw [List.length_cons]; omega
    · exact ⟨h, Nat.le_refl _, by simp⟩
theorem el_ok : ∀ (l : List UInt8) (i : Nat) (e : Int) (u : Bool), 0 ≤ e → e ≤ 200000 → 0 ≤ (el l i e u).2.1 ∧ (el l i e u).2.1 ≤ 200000 ∧ i ≤ (el l i e u).1 ∧ (el l i e u).1 ≤ i + l.length
  | [], i, e, u, h0, h1 => by simp [el]; omega
  | c :: t, i, e, u, h0, h1 => by
    unfold el
    have hc := UInt8.toNat_lt c
    rw [List.length_cons]
    split
    · have := el_ok t (i + 1) e true h0 h1
      omega
    · split
      · have := el_ok t (i + 1) (if e < 10000 then e * 10 + c.toNat - 48 else e) u (by split <;> omega) (by split <;> omega)
        omega
      · simp only []; omega
/-- What readFloat's results keep. -/
structure RFok (L : Nat) (r : RF) : Prop where
  m0 : 0 ≤ r.m
  m1 : r.m ≤ 18446744073709551615
  p0 : -100000000000 ≤ r.p
  p1 : r.p ≤ 100000000000
  n : r.n ≤ L
theorem rf5_ok {l : List UInt8} {neg hex : Bool} {m : Int} {tr : Bool} {i : Nat} {und : Bool} {ndm dp : Int} (m0 : 0 ≤ m) (m1 : m ≤ 18446744073709551615) (hi : i ≤ l.length) (h1 : 0 ≤ ndm) (h2 : ndm ≤ 100) (h3 : -50000000000 ≤ dp) (h4 : dp ≤ 50000000000) : RFok l.length (rf5 uok l neg hex m tr i und ndm dp) :=
  ⟨m0, m1, by simp only [rf5]; split <;> omega, by simp only [rf5]; split <;> omega, hi⟩
theorem rf4_ok {l : List UInt8} {neg hex : Bool} {m : Int} {tr : Bool} {i : Nat} {und : Bool} {ndm dp sg : Int} (m0 : 0 ≤ m) (m1 : m ≤ 18446744073709551615) (hi : i ≤ l.length) (h1 : 0 ≤ ndm) (h2 : ndm ≤ 100) (h3 : -10000000000 ≤ dp) (h4 : dp ≤ 10000000000) (hs : sg = 1 ∨ sg = -1) : RFok l.length (rf4 uok l neg hex m tr i und ndm dp sg) := by
  unfold rf4
  split
  · have := el_ok (l.drop i) i 0 und (by omega) (by omega)
    rw [List.length_drop] at this
    refine rf5_ok uok m0 m1 (by omega) h1 h2 ?_ ?_
    · rcases hs with rfl | rfl <;> omega
    · rcases hs with rfl | rfl <;> omega
  · exact ⟨m0, m1, by simp only []; omega, by simp only []; omega, hi⟩
theorem rf3_ok {l : List UInt8} {neg hex : Bool} {m : Int} {tr : Bool} {i : Nat} {und : Bool} {ndm dp : Int} (m0 : 0 ≤ m) (m1 : m ≤ 18446744073709551615) (hi : i ≤ l.length) (h1 : 0 ≤ ndm) (h2 : ndm ≤ 100) (h3 : -10000000000 ≤ dp) (h4 : dp ≤ 10000000000) : RFok l.length (rf3 uok l neg hex m tr i und ndm dp) := by
  unfold rf3
  repeat' split
  · exact rf4_ok uok m0 m1 (by omega) h1 h2 h3 h4 (.inl rfl)
  · exact rf4_ok uok m0 m1 (by omega) h1 h2 h3 h4 (.inr rfl)
  · exact rf4_ok uok m0 m1 (by omega) h1 h2 h3 h4 (.inl rfl)
  · exact ⟨m0, m1, by simp only []; omega, by simp only []; omega, by simp only []; omega⟩
  · exact ⟨m0, m1, by simp only []; omega, by simp only []; omega, hi⟩
  · exact rf5_ok uok m0 m1 hi h1 h2 (by omega) (by omega)
theorem rf2_ok {l : List UInt8} {neg hex : Bool} {s : RS} {i : Nat} (hs : RSok i s) (hi : i ≤ l.length) (hl : l.length ≤ 1000000000) : RFok l.length (rf2 uok l neg hex s i) := by
  obtain ⟨m0, m1, nd, ndm, dp0, dp1⟩ := hs
  unfold rf2
  split
  · refine rf3_ok uok m0 m1 hi ?_ ?_ ?_ ?_
    all_goals (cases hex <;> simp only [if_true, if_false, Bool.false_eq_true] <;> (try split) <;> omega)
  · exact ⟨m0, m1, by simp only []; omega, by simp only []; omega, hi⟩
theorem rf1_ok {l : List UInt8} {neg hex : Bool} {i : Nat} (hi : i ≤ l.length) (hl : l.length ≤ 1000000000) : RFok l.length (rf1 uok l neg hex i) := by
  have := rl_ok hex (l.drop i) i ⟨0, false, false, false, false, 0, 0, 0⟩ ⟨by simp, by simp, by simp, by simp, by simp only []; omega, by simp only []; omega⟩
  rw [List.length_drop] at this
  exact rf2_ok uok this.1 (by omega) hl
theorem isHex_len {l : List UInt8} {i : Nat} (h : isHex l i = true) : i + 2 < l.length := by
  simp only [isHex, Bool.and_eq_true, decide_eq_true_eq] at h
  exact h.1.1
theorem rf0_ok {l : List UInt8} {neg : Bool} {i : Nat} (hi : i ≤ l.length) (hl : l.length ≤ 1000000000) : RFok l.length (rf0 uok l neg i) := by
  unfold rf0
  refine rf1_ok uok ?_ hl
  split
  · rename_i h; have := isHex_len h; omega
  · exact hi
theorem rf_ok (l : List UInt8) (hl : l.length ≤ 1000000000) : RFok l.length (rf uok l) := by
  cases l with
  | nil => exact ⟨by simp [rf], by simp [rf], by simp [rf], by simp [rf], by simp [rf]⟩
  | cons c t =>
    rw [rf]
    by_cases h1 : c = 43
    · rw [if_pos h1]; exact rf0_ok uok (i := 1) (by simp) hl
    · rw [if_neg h1]
      by_cases h2 : c = 45
      · rw [if_pos h2]; exact rf0_ok uok (i := 1) (by simp) hl
      · rw [if_neg h2]; exact rf0_ok uok (i := 0) (by simp) hl
end Go.Proofs.Qxb6606206aGreatDoor
