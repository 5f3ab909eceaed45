import Derived.Test.Qxb6609089aDoorW11
set_option linter.unusedSimpArgs false
set_option linter.unusedVariables false
namespace Go.Proofs.Qxb6609089aDoor
open Go Go.RowKit

theorem results_tmp4 {fn : Func} {t u v x : Tmp} (h : fn.results = #[.tmp t, .tmp u, .tmp v, .tmp x]) (tmps : Array Value) (P : Program) (w : World) :
    (results fn tmps).run P w = .ok (.tuple #[tmps.getD t undef, tmps.getD u undef, tmps.getD v undef, tmps.getD x undef]) w := by
  simp [results, h]

/-- What UnquoteChar hands back: an error, or the rune, whether it may take more bytes than one, and what is left. -/
def UCPost (t : TypeId) (x : Value) (w : World) (res : Option (Int × Bool × List UInt8)) (e : Ending) (w' : World) : Prop :=
  Below w.heap.size w w' ∧ match res with
    | none => ∃ a b c, e = .returned (.tuple #[.int .i32 a, .bool b, .string c, .iface t x])
    | some (r, m, tl) => e = .returned (.tuple #[.int .i32 r, .bool m, .string (str tl), .nilIface])

/-- strconv.ErrSyntax holds an error. -/
def Syn (w : World) (t : TypeId) (x : Value) : Prop := w.cell? ⟨1, 0, none⟩ = some (.iface t x)

attribute [local go_sem] str_size str_get str_extract str_toList str_append

theorem ne_u8 {c q : UInt8} (h : c ≠ q) : ((c.toNat : Int) == (q.toNat : Int)) = false := by
  rw [beq_eq_false_iff_ne]; intro e; exact h (UInt8.toNat_inj.1 (by omega))
theorem ne_k {c : UInt8} {k : Int} (h : (c.toNat : Int) ≠ k) : ((c.toNat : Int) == k) = false := by
  rw [beq_eq_false_iff_ne]; exact h
theorem nb_k {c : UInt8} {k : Int} (h : (c.toNat : Int) ≠ k) : ((c.toNat : Int) != k) = true := by
  rw [bne_iff_ne]; exact h

set_option maxHeartbeats 400000 in
set_option maxRecDepth 20000 in
theorem uc_plain (c q : UInt8) (s : List UInt8) (w : World) (t : TypeId) (x : Value) (hc : c.toNat < 128) (hcq : c ≠ q) (hb : (c.toNat : Int) ≠ 92) (hs : s.length + 1 ≤ 1000000000) :
    Calls Tryd.prog 31 #[.string (str (c :: s)), .int .u8 q.toNat] w (UCPost t x w (some (c.toNat, false, s))) := by
  have h1 := ne_u8 hcq
  have h2 := nb_k hb
  have h3 : ¬ (128 ≤ (c.toNat : Int)) := by omega
  clear hb hcq
  go_enter Tryd.func31, Tryd.ntmps31
  go_wp2_with fail
  go_quiet (fail)
  go_wp2_with fail
  try simp only [Exit.inBlock, Exit.then]
  refine bodyPost_ret (results_tmp4 rfl _ _ _) rfl ?_
  exact ⟨below_drewN (Below.refl _ w) _, rfl⟩

theorem Syn.lt {w : World} {t : TypeId} {x : Value} (h : Syn w t x) : 1 < w.heap.size := World.block_lt_of_cell? w _ h
theorem Syn.below {w w' : World} {t : TypeId} {x : Value} (h : Syn w t x) (hb : Below w.heap.size w w') : Syn w' t x := by
  have := h.lt
  unfold Syn; rw [hb.cell (p := ⟨1, 0, none⟩) this]; exact h

set_option maxHeartbeats 400000 in
set_option maxRecDepth 20000 in
theorem uc_high (c q : UInt8) (s : List UInt8) (w : World) (t : TypeId) (x : Value) (hc : 128 ≤ c.toNat) (hcq : c ≠ q) (hs : s.length + 1 ≤ 1000000000) (hU : Lib.Utf8Tabs 3 4 w) :
    Calls Tryd.prog 31 #[.string (str (c :: s)), .int .u8 q.toNat] w (UCPost t x w (some ((Utf8.decode (str (c :: s)) 0).1, true, (c :: s).drop (Utf8.decode (str (c :: s)) 0).2))) := by
  have h1 := ne_u8 hcq
  have h3 : (128 ≤ (c.toNat : Int)) := by omega
  have cD := Any.utf8_DecodeRuneInString Tryd.lays197 (str (c :: s)) w hU
  have hsz : (str (c :: s)).size = s.length + 1 := by rw [str_size]; rfl
  have e : Lib.decodeGo (str (c :: s)) = Utf8.decode (str (c :: s)) 0 := by
    have hne : ¬ (str (c :: s)).size = 0 := by omega
    simp [Lib.decodeGo, hne]
  rw [e] at cD
  have hK2 : (Utf8.decode (str (c :: s)) 0).2 ≤ s.length + 1 := by rw [← hsz]; exact Lib.width_le _ (by omega)
  generalize (Utf8.decode (str (c :: s)) 0).1 = R at cD ⊢
  generalize (Utf8.decode (str (c :: s)) 0).2 = K at cD hK2 ⊢
  clear hcq e hsz
  go_enter Tryd.func31, Tryd.ntmps31
  go_wp2_with (go_at_call 30; go_fit cD; rintro e w' ⟨rfl, hb⟩)
  go_quiet (fail)
  go_wp2_with fail
  try simp only [Exit.inBlock, Exit.then]
  refine bodyPost_ret (results_tmp4 rfl _ _ _) rfl ?_
  refine ⟨below_drewN hb _, ?_⟩
  simp

set_option maxHeartbeats 400000 in
set_option maxRecDepth 20000 in
theorem uc_end (q : UInt8) (w : World) (t : TypeId) (x : Value) (hq : q = 34 ∨ q = 39) (hS : Syn w t x) :
    Calls Tryd.prog 31 #[.string (str [92]), .int .u8 q.toNat] w (UCPost t x w none) := by
  have hS' : w.cell? ⟨1, 0, none⟩ = some (.iface t x) := hS
  clear hS
  rcases hq with rfl | rfl
  all_goals
    go_enter Tryd.func31, Tryd.ntmps31
    go_wp2_with fail
    try simp only [Exit.inBlock, Exit.then]
    refine bodyPost_ret (results_tmp4 rfl _ _ _) rfl ?_
    exact ⟨Below.refl _ _, _, _, _, rfl⟩

set_option maxHeartbeats 1600000 in
set_option maxRecDepth 20000 in
theorem uc_simple (q : UInt8) (d : UInt8) (v : Int) (s : List UInt8) (w : World) (t : TypeId) (x : Value) (hq : q = 34 ∨ q = 39) (hd : (d, v) ∈ Uq.simpleEsc) (hs : s.length + 2 ≤ 1000000000) :
    Calls Tryd.prog 31 #[.string (str (92 :: d :: s)), .int .u8 q.toNat] w (UCPost t x w (some (v, false, s))) := by
  have h1 : ((92 : Int) == (q.toNat : Int)) = false := by rcases hq with rfl | rfl <;> rfl
  clear hq
  simp only [Uq.simpleEsc, List.mem_cons, Prod.mk.injEq, List.not_mem_nil, or_false] at hd
  rcases hd with ⟨rfl, rfl⟩ | ⟨rfl, rfl⟩ | ⟨rfl, rfl⟩ | ⟨rfl, rfl⟩ | ⟨rfl, rfl⟩ | ⟨rfl, rfl⟩ | ⟨rfl, rfl⟩ | ⟨rfl, rfl⟩
  all_goals
    go_enter Tryd.func31, Tryd.ntmps31
    go_wp2_with fail
    try simp only [Exit.inBlock, Exit.then]
    refine bodyPost_ret (results_tmp4 rfl _ _ _) rfl ?_
    exact ⟨Below.refl _ _, by simp⟩

set_option maxHeartbeats 1600000 in
set_option maxRecDepth 20000 in
theorem uc_quote (q : UInt8) (s : List UInt8) (w : World) (t : TypeId) (x : Value) (hq : q = 34 ∨ q = 39) (hs : s.length + 2 ≤ 1000000000) :
    Calls Tryd.prog 31 #[.string (str (92 :: q :: s)), .int .u8 q.toNat] w (UCPost t x w (some (q.toNat, false, s))) := by
  rcases hq with rfl | rfl
  all_goals
    go_enter Tryd.func31, Tryd.ntmps31
    go_wp2_with fail
    try simp only [Exit.inBlock, Exit.then]
    refine bodyPost_ret (results_tmp4 rfl _ _ _) rfl ?_
    exact ⟨Below.refl _ _, by simp⟩

end Go.Proofs.Qxb6609089aDoor
