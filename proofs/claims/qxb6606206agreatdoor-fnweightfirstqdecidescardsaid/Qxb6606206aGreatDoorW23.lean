import Derived.Test.Qxb6606206aGreatDoorW22
import Derived.Test.Qxb6606206aGreatDoorSh1
set_option linter.unusedSimpArgs false
set_option linter.unusedVariables false
namespace Go.Proofs.Qxb6606206aGreatDoor
open Go Go.RowKit
attribute [local go_sem] frombits_run str_size str_get str_extract str_toList str_append

/-- The two errors that strconv wraps. -/
structure ES (w : World) : Prop where
  s : ∃ t x, w.cell? ⟨6, 0, none⟩ = some (.iface t x)
  r : ∃ t x, w.cell? ⟨7, 0, none⟩ = some (.iface t x)
theorem ES.below {w w' : World} (h : ES w) (hb : Below w.heap.size w w') : ES w' := by
  obtain ⟨⟨t, x, h1⟩, t', x', h2⟩ := h
  exact ⟨⟨t, x, (hb.cell (p := ⟨6, 0, none⟩) (World.block_lt_of_cell? w _ h1)).trans h1⟩, t', x', (hb.cell (p := ⟨7, 0, none⟩) (World.block_lt_of_cell? w _ h2)).trans h2⟩
/-- All that ParseFloat reads. -/
def PT (w : World) : Prop := (∃ fb fo fc pb po pc blk o cap, TB w fb fo fc pb po pc blk o cap) ∧ ES w
theorem PT.below {w w' : World} (h : PT w) (hb : Below w.heap.size w w') : PT w' := by
  obtain ⟨⟨fb, fo, fc, pb, po, pc, blk, o, cap, h1⟩, h2⟩ := h
  exact ⟨⟨fb, fo, fc, pb, po, pc, blk, o, cap, h1.below hb⟩, h2.below hb⟩

theorem toErr (k : Int) (hk : k = 1 ∨ k = 2) (l : List UInt8) (hl : l.length ≤ 1000000000) (fn : ByteArray) (w : World) (h : ES w) :
    Calls Tryz.prog 33 #[.string fn, .string (str l), .int .i64 0, .int .i64 64, .iface 65 (.int .i64 k)] w fun e w' => (∃ t x, e = .returned (.iface t x)) ∧ Below w.heap.size w w' := by
  obtain ⟨⟨t, x, h1⟩, t', x', h2⟩ := h
  rcases hk with rfl | rfl
  · exact (Any.strconv_toError_range Tryz.laysC245 fn (str l) 0 64 _ w (by rw [str_size]; omega) h2 (.inr ⟨_, _, rfl⟩)).mono fun e w' ⟨N, h3, _, _, hb⟩ => ⟨⟨_, _, h3⟩, hb⟩
  · exact (Any.strconv_toError_syntax Tryz.laysC245 fn (str l) 0 64 _ w (by rw [str_size]; omega) h1 (.inr ⟨_, _, rfl⟩)).mono fun e w' ⟨N, h3, _, _, hb⟩ => ⟨⟨_, _, h3⟩, hb⟩

/-- What ParseFloat gives: one float, and whether there is an error. -/
def PF (l : List UInt8) (f : Nat) (bad : Bool) : Prop := ∀ w : World, PT w → Calls Tryz.prog 25 #[.string (str l), .int .i64 64] w fun e w' => ∃ ev, e = .returned (.tuple #[.float .f64 f, ev]) ∧ (if bad then ∃ t x, ev = .iface t x else ev = .nilIface) ∧ Below w.heap.size w w'

set_option maxHeartbeats 3200000 in
set_option maxRecDepth 20000 in
theorem inner_gives (l : List UInt8) (hl : l.length ≤ 1000000000) : ∃ f err, Err err ∧ ∀ w : World, PT w → Calls Tryz.prog 32 #[.string (str l), .int .i64 64] w fun e w' => e = .returned (.tuple #[.float .f64 f, err]) ∧ Below w.heap.size w w' := by
  obtain ⟨f, n, err, herr, cA⟩ := a64 l hl
  have c48 : ∀ w : World, PT w → Calls Tryz.prog 48 #[.string (str l), .int .i64 64] w (APost w f n err) := fun w hT => by
    obtain ⟨⟨fb, fo, fc, pb, po, pc, blk, o, cap, h1⟩, h2⟩ := hT
    have cA' := cA fb fo fc pb po pc blk o cap w h1
    clear cA h1 h2
    go_enter Tryz.func48, Tryz.ntmps48
    go_wp2_with (go_at_call 63; go_fit cA'; rintro e w' ⟨rfl, hb⟩)
    go_ret3
    exact ⟨rfl, hb⟩
  by_cases hn : n = l.length
  · refine ⟨f, err, herr, fun w hT => ?_⟩
    have c := c48 w hT
    have hn' : ((n : Int) != (l.length : Int)) = false := by rw [hn]; simp
    clear c48 hT cA hn
    go_enter Tryz.func32, Tryz.ntmps32
    go_wp2_with (go_at_call 48; go_fit c; rintro e w' ⟨rfl, hb⟩)
    go_ret2
    exact ⟨rfl, hb⟩
  · refine ⟨0, .iface 65 (.int .i64 2), .inr (.inr rfl), fun w hT => ?_⟩
    have c := c48 w hT
    have hn' : ((n : Int) != (l.length : Int)) = true := by rw [bne_iff_ne]; omega
    clear c48 hT cA
    go_enter Tryz.func32, Tryz.ntmps32
    go_wp2_with (go_at_call 48; go_fit c; rintro e w' ⟨rfl, hb⟩)
    go_ret2
    exact ⟨rfl, hb⟩

set_option maxHeartbeats 3200000 in
set_option maxRecDepth 20000 in
theorem pf_gives (l : List UInt8) (hl : l.length ≤ 1000000000) : ∃ f bad, PF l f bad := by
  obtain ⟨f, err, herr, cI⟩ := inner_gives l hl
  rcases herr with rfl | herr
  · refine ⟨f, false, fun w hT => ?_⟩
    have c := cI w hT
    clear cI hT
    go_enter Tryz.func25, Tryz.ntmps25
    go_wp2_with (go_at_call 32; go_fit c; rintro e w' ⟨rfl, hb⟩)
    go_ret2
    exact ⟨_, rfl, rfl, hb⟩
  · refine ⟨f, true, fun w hT => ?_⟩
    have c := cI w hT
    have HT := hid_of hT
    clear cI hT
    have hk : ∃ k : Int, (k = 1 ∨ k = 2) ∧ err = .iface 65 (.int .i64 k) := by
      rcases herr with h | h
      · exact ⟨1, .inl rfl, h⟩
      · exact ⟨2, .inr rfl, h⟩
    obtain ⟨k, hk, rfl⟩ := hk
    clear herr
    go_enter Tryz.func25, Tryz.ntmps25
    go_wp2_with (first | (go_at_call 32; go_fit c; rintro e w' ⟨rfl, hb⟩) | (go_at_call 33; go_fit (toErr k hk l hl _ _ (HT.out.below hb).2); rintro e w2 ⟨⟨t, x, rfl⟩, hb2⟩))
    go_ret2
    exact ⟨_, rfl, ⟨_, _, rfl⟩, hb.trans (hb2.mono hb.size)⟩
end Go.Proofs.Qxb6606206aGreatDoor
