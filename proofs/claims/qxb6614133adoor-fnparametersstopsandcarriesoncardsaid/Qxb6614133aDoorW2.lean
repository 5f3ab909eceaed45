import Derived.Test.Qxb6614133aDoorW1
set_option linter.unusedSimpArgs false
set_option linter.unusedVariables false
namespace Go.Proofs.Qxb6614133aDoor
open Go Go.RowKit

/-- A text by its list of bytes; a name that simp leaves standing. -/
def str (l : List UInt8) : ByteArray := ⟨l.toArray⟩
theorem str_size (l : List UInt8) : (str l).size = l.length := by simp [str, ByteArray.size]
theorem str_get (l : List UInt8) (i : Nat) (h : i < (str l).size) : (str l)[i] = l[i]'(by rw [← str_size]; exact h) := by simp [str, ByteArray.getElem_eq_getElem_data]
theorem str_extract (l : List UInt8) (a b : Nat) : (str l).extract a b = str ((l.take b).drop a) := by
  apply ByteArray.ext
  simp [str, List.drop_take]
theorem str_toList (l : List UInt8) : (str l).toList = l := by rw [Lib.toList_data]; rfl
theorem str_of (s : ByteArray) : s = str s.data.toList := by cases s; simp [str]
theorem str_append (a b : List UInt8) : str a ++ str b = str (a ++ b) := by
  apply ByteArray.ext
  simp [str]
theorem str_inj {a b : List UInt8} : str a = str b ↔ a = b := by
  constructor
  · intro h; rw [← str_toList a, h, str_toList]
  · intro h; rw [h]

/-- The parser's one cell, in block b, holds the text l. -/
structure Ps (b : Nat) (l : List UInt8) (w : World) : Prop where
  cell : w.cell? ⟨b, 0, none⟩ = some (.string (str l))
  free : w.frozen? ⟨b, 0, none⟩ = false
/-- Of all that lay in w nothing but block b has turned. -/
structure Kp (b : Nat) (w w' : World) : Prop where
  os : w'.os = w.os
  tape : w'.tape = w.tape
  output : w'.output = w.output
  size : w.heap.size ≤ w'.heap.size
  block : ∀ k, k < w.heap.size → k ≠ b → w'.heap[k]? = w.heap[k]?

theorem Ps.lt {b : Nat} {l : List UInt8} {w : World} (h : Ps b l w) : b < w.heap.size := World.block_lt_of_cell? w _ h.cell
theorem Ps.set {b : Nat} {l : List UInt8} {w : World} (h : Ps b l w) (l' : List UInt8) : Ps b l' (w.setCell ⟨b, 0, none⟩ (.string (str l'))) :=
  ⟨World.cell?_setCell_same _ _ _ (by rw [h.cell]), by rw [World.frozen?_setCell]; exact h.free⟩
theorem Ps.later {b : Nat} {l : List UInt8} {w w' : World} (h : Ps b l w) (hb : Below (b + 1) w w') : Ps b l w' :=
  ⟨by rw [hb.cell (p := ⟨b, 0, none⟩) (Nat.lt_succ_self b)]; exact h.cell, by rw [hb.frozen (p := ⟨b, 0, none⟩) (Nat.lt_succ_self b)]; exact h.free⟩
theorem Ps.alloc {b : Nat} {l : List UInt8} {w : World} (h : Ps b l w) (o : Obj) : Ps b l (w.alloc o) := h.later ((Below.refl _ _).alloc h.lt _)
theorem Ps.put {b : Nat} {l : List UInt8} {w : World} (h : Ps b l w) {k o : Nat} (hk : b < k) (v : Value) : Ps b l (w.setCell ⟨k, o, none⟩ v) := h.later ((Below.refl _ _).setCell hk _)
theorem Kp.refl (b : Nat) (w : World) : Kp b w w := ⟨rfl, rfl, rfl, Nat.le_refl _, fun _ _ _ => rfl⟩
theorem Kp.trans {b : Nat} {w1 w2 w3 : World} (h : Kp b w1 w2) (k : Kp b w2 w3) : Kp b w1 w3 :=
  ⟨k.os.trans h.os, k.tape.trans h.tape, k.output.trans h.output, Nat.le_trans h.size k.size, fun i hi hb => (k.block i (Nat.lt_of_lt_of_le hi h.size) hb).trans (h.block i hi hb)⟩
theorem Kp.set {b : Nat} {w0 w : World} (h : Kp b w0 w) (o : Nat) (v : Value) : Kp b w0 (w.setCell ⟨b, o, none⟩ v) :=
  h.trans ⟨rfl, rfl, rfl, by simp, fun k _ hb => Below.heap_setCell w ⟨b, o, none⟩ v k hb⟩
theorem Kp.alloc {b : Nat} {w0 w : World} (h : Kp b w0 w) (o : Obj) : Kp b w0 (w.alloc o) :=
  h.trans ⟨rfl, rfl, rfl, by simp, fun k hk _ => Below.heap_alloc w o k hk⟩
theorem Kp.put {b : Nat} {w0 w : World} (h : Kp b w0 w) {k o : Nat} (hk : w0.heap.size ≤ k) (v : Value) : Kp b w0 (w.setCell ⟨k, o, none⟩ v) :=
  ⟨h.os, h.tape, h.output, by simp; exact h.size, fun i hi hb => by rw [Below.heap_setCell w ⟨k, o, none⟩ v i (by show i ≠ k; omega)]; exact h.block i hi hb⟩
theorem Kp.cell {b : Nat} {w w' : World} (h : Kp b w w') (k o : Nat) (hk : k < w.heap.size) (hb : ¬ k = b) : w'.cell? ⟨k, o, none⟩ = w.cell? ⟨k, o, none⟩ := World.cell?_of_block (w := w) (h.block k hk hb)
theorem Kp.free {b : Nat} {w w' : World} (h : Kp b w w') (k o : Nat) (hk : k < w.heap.size) (hb : ¬ k = b) : w'.frozen? ⟨k, o, none⟩ = w.frozen? ⟨k, o, none⟩ := World.frozen?_of_block (w := w) (h.block k hk hb)
theorem Kp.below {b : Nat} {w w' : World} (h : Kp b w w') (hb : b ≤ w.heap.size) : Below b w w' := ⟨h.os, h.tape, h.output, h.size, fun k hk => h.block k (by omega) (by omega)⟩

attribute [local go_sem] str_size str_get str_extract str_toList str_append
set_option maxHeartbeats 400000 in
theorem consume_calls (b : Nat) (l : List UInt8) (c : UInt8) (w : World) (h : Ps b l w) :
    Calls Tryd.prog 7 #[.pointer (some ⟨b, 0, none⟩), .int .u8 c.toNat] w fun e w' => e = .returned (.bool (Sf.consume c l).1) ∧ Ps b (Sf.consume c l).2 w' ∧ Kp b w w' := by
  have hc := h.cell
  have hf := h.free
  cases l with
  | nil =>
    go_enter Tryd.func7, Tryd.ntmps7
    go_wp2
    go_ret
    exact ⟨rfl, h, Kp.refl b _⟩
  | cons d t =>
    by_cases hd : d = c
    · have hd' : ((d.toNat : Int) != (c.toNat : Int)) = false := by subst hd; simp
      clear hd
      go_enter Tryd.func7, Tryd.ntmps7
      go_wp2
      go_ret
      have hd2 : d = c := by
        have : (d.toNat : Int) = (c.toNat : Int) := by simpa using hd'
        exact UInt8.toNat_inj.1 (by omega)
      have e : Sf.consume c (d :: t) = (true, t) := by simp [Sf.consume, hd2]
      rw [e]
      exact ⟨rfl, h.set t, (Kp.refl b _).set _ _⟩
    · have hd' : ((d.toNat : Int) != (c.toNat : Int)) = true := by
        rw [bne_iff_ne]; intro e; exact hd (UInt8.toNat_inj.1 (by omega))
      have e : Hid (Sf.consume c (d :: t) = (false, d :: t)) := show _ = _ by simp [Sf.consume, hd]
      clear hd
      go_enter Tryd.func7, Tryd.ntmps7
      go_wp2
      go_ret
      rw [e.out]
      exact ⟨rfl, h, Kp.refl b _⟩

theorem span_at (p : UInt8 → Bool) : ∀ (l : List UInt8) (k : Nat), k ≤ l.length → (∀ j (hj : j < k) (hl : j < l.length), p l[j] = true) → (∀ (hk : k < l.length), p l[k] = false) → l.take k = l.takeWhile p ∧ l.drop k = l.dropWhile p
  | [], k, hk, _, _ => by simp at hk; subst hk; simp
  | c :: l, 0, _, _, h0 => by
    have := h0 (by simp)
    simp at this
    simp [this]
  | c :: l, k + 1, hk, hall, h0 => by
    have hc : p c = true := hall 0 (by omega) (by simp)
    have ih := span_at p l k (by simpa using hk) (fun j hj hl => hall (j + 1) (by omega) (by simpa using hl)) (fun hk' => h0 (by simpa using hk'))
    simp [hc, ih.1, ih.2]

set_option maxHeartbeats 400000 in
theorem span_calls (g : Nat) (p : UInt8 → Bool) (eg : ∀ args w, (callFunc g args).run Tryd.prog w = .ok (.enter g args) w) (hg : ∀ (c : UInt8) (w : World), Calls Tryd.prog g #[.int .u8 c.toNat] w fun e w' => e = .returned (.bool (p c)) ∧ w' = w)
    (b : Nat) (l : List UInt8) (w : World) (hl : l.length ≤ 1048576) (h : Ps b l w) :
    Calls Tryd.prog 16 #[.pointer (some ⟨b, 0, none⟩), .func (.func g) #[] #[]] w fun e w' => e = .returned (.string (str (l.takeWhile p))) ∧ Ps b (l.dropWhile p) w' ∧ Kp b w w' := by
  have hc := h.cell
  have hf := h.free
  go_enter Tryd.func16, Tryd.ntmps16
  go_wp2_with fail
  go_loop [5] (fun i => ∃ k : Nat, k ≤ l.length ∧ i = .int .i64 k ∧ Hid (∀ j (hj : j < k) (hl : j < l.length), p l[j] = true)) (fun i => l.length - (intOf i).toNat)
  case atStart => exact ⟨0, Nat.zero_le _, rfl, fun j hj => absurd hj (Nat.not_lt_zero _)⟩
  case round =>
    obtain ⟨k, hk, rfl, hall⟩ := hrel
    by_cases hlt : k < l.length
    · have hgk := fun w => hg l[k] w
      obtain ⟨pk, hpk⟩ : ∃ pk, p l[k] = pk := ⟨_, rfl⟩
      rw [hpk] at hgk
      have HPK : Hid (p l[k] = pk) := hpk
      clear hpk hg
      go_wp2_with (go_at_fn g; go_fit (hgk _); rintro e w' ⟨rfl, rfl⟩)
      · have hpt : pk = true := by assumption
        go_round
        case rel =>
          refine ⟨k + 1, by omega, by go_num, fun j hj hl' => ?_⟩
          by_cases hjk : j = k
          · subst hjk; rw [HPK.out, hpt]
          · exact hall.out j (by omega) hl'
        case measure => simp [intOf]; omega
      · have hpf : pk = false := by assumption
        have hs := span_at p l k hk hall.out (fun _ => by rw [HPK.out, hpf])
        go_ret
        rw [← hs.1, ← hs.2]
        exact ⟨rfl, h.set _, (Kp.refl b _).set _ _⟩
    · have hs := span_at p l k hk hall.out (fun hk' => absurd hk' hlt)
      have hke : k = l.length := by omega
      have HS : Hid (l.take k = l.takeWhile p ∧ l.drop k = l.dropWhile p) := hs
      clear hs hg
      go_wp2_with fail
      go_ret
      rw [← HS.out.1, ← HS.out.2]
      have e0 : l.drop k = [] := by simp [hke]
      rw [e0]
      exact ⟨by simp [hke], h.set [], (Kp.refl b _).set _ _⟩

set_option maxHeartbeats 400000 in
theorem key_calls (b : Nat) (l : List UInt8) (w : World) (hl : l.length ≤ 1048576) (h : Ps b l w) :
    Calls Tryd.prog 9 #[.pointer (some ⟨b, 0, none⟩)] w fun e w' => ∃ s, e = .returned (.tuple #[.string s, .bool (Sf.key l).1]) ∧ Ps b (Sf.key l).2 w' ∧ Kp b w w' := by
  have hc := h.cell
  have hf := h.free
  cases l with
  | nil =>
    go_enter Tryd.func9, Tryd.ntmps9
    go_wp2_with fail
    go_ret2
    exact ⟨_, rfl, h, Kp.refl b _⟩
  | cons d t =>
    have hspan := fun w' h' => span_calls 17 Sf.keyC (by exact fun _ _ => rfl) keyC_calls b (d :: t) w' hl h'
    have hlow := fun w => lower_calls d w
    obtain ⟨lo, hlo⟩ : ∃ lo, Sf.lower d = lo := ⟨_, rfl⟩
    rw [hlo] at hlow
    have e : Hid (Sf.key (d :: t) = if lo || d == 42 then (true, (d :: t).dropWhile Sf.keyC) else (false, d :: t)) := show _ = _ by rw [← hlo, Sf.key]
    clear hlo
    go_enter Tryd.func9, Tryd.ntmps9
    go_wp2_with (first
      | (go_at_call 15; go_fit (hlow _); rintro e w' ⟨rfl, rfl⟩)
      | (go_at_call 16; go_fit (hspan _ h); rintro e w' ⟨rfl, hp, hk⟩))
    · have h1 : lo = true := by assumption
      go_ret2
      rw [e.out, if_pos (by simp [h1])]
      exact ⟨_, rfl, hp, hk⟩
    · have h1 : ¬ lo = true := by assumption
      have h2 : ((d.toNat : Int) != 42) = true := by assumption
      have h3 : ¬ d = 42 := by rw [← eq_u8 d 42 42 rfl]; simpa using h2
      go_ret2
      rw [e.out, if_neg (by simp [h1, h3])]
      exact ⟨_, rfl, h, Kp.refl b _⟩
    · have h2 : ((d.toNat : Int) != 42) = false := by assumption
      have h3 : d = 42 := by rw [← eq_u8 d 42 42 rfl]; simpa using h2
      go_ret2
      rw [e.out, if_pos (by simp [h3])]
      exact ⟨_, rfl, hp, hk⟩

end Go.Proofs.Qxb6614133aDoor
