import Derived.Test.Qxb6609089aDoorW4
import Derived.Test.Qxb6609089aDoorL1
import Derived.Test.Qxb6609089aDoorSh1
import Derived.Lib.SlBytesConst
set_option linter.unusedSimpArgs false
set_option linter.unusedVariables false
namespace Go.Proofs.Qxb6609089aDoor
open Go Go.RowKit

theorem ret_bool {a b : Bool} (h : a = b) : Ending.returned (.bool a) = .returned (.bool b) := by rw [h]

/-- The bytes l lie in block b from place o on. -/
def BAt (w : World) (b o : Nat) (l : List UInt8) : Prop := ∀ i, i < l.length → w.cell? ⟨b, o + i, none⟩ = some (.int .u8 ((l.getD i 0).toNat : Int))
theorem BAt.below {w w' : World} {B b o : Nat} {l : List UInt8} (h : BAt w b o l) (hb : Below B w w') (hB : b < B) : BAt w' b o l := fun i hi => by
  rw [hb.cell (p := ⟨b, o + i, none⟩) hB]; exact h i hi
theorem BAt.take {w : World} {b o : Nat} {l : List UInt8} (h : BAt w b o l) (k : Nat) : BAt w b o (l.take k) := fun i hi => by
  rw [List.length_take] at hi
  rw [h i (by omega)]
  have : i < k := by omega
  simp [List.getD, List.getElem?_take, this]
theorem BAt.drop {w : World} {b o : Nat} {l : List UInt8} (h : BAt w b o l) (k : Nat) : BAt w b (o + k) (l.drop k) := fun i hi => by
  rw [List.length_drop] at hi
  have := h (k + i) (by omega)
  rw [Nat.add_assoc, this]
  simp [List.getD, List.getElem?_drop]
def nums (l : List UInt8) : List Int := l.map fun c => (c.toNat : Int)
theorem nums_length (l : List UInt8) : (nums l).length = l.length := by simp [nums]
theorem nums_getD (l : List UInt8) (i : Nat) : (nums l).getD i 0 = ((l.getD i 0).toNat : Int) := by
  unfold nums
  simp only [List.getD_eq_getElem?_getD, List.getElem?_map]
  cases l[i]? <;> rfl
theorem bytesOf_nums (l : List UInt8) : Lib.bytesOf (nums l) = l := by
  unfold Lib.bytesOf nums
  rw [List.map_map]
  conv => rhs; rw [← List.map_id l]
  apply List.map_congr_left
  intro c _
  simp
theorem BAt.ints {w : World} {b o : Nat} {l : List UInt8} (h : BAt w b o l) : ∀ i, i < l.length → w.cell? ⟨b, o + i, none⟩ = some (.int .u8 ((nums l).getD i 0)) := fun i hi => by
  rw [nums_getD]; exact h i hi
theorem BAt.inn {w : World} {b o : Nat} {l : List UInt8} (h : BAt w b o l) : Lib.BytesIn w (some ⟨b, o, none⟩) l.length (nums l) := fun _ => ⟨b, o, rfl, h.ints⟩

theorem index_none (l : List UInt8) (h : 10 ∉ l) : Lib.indexByte l 10 = -1 := by
  induction l with
  | nil => rfl
  | cons c t ih =>
    have hc : ¬ c = 10 := fun e => h (by rw [e]; exact List.mem_cons_self)
    rw [Lib.indexByte, if_neg (by simpa using hc), ih (fun m => h (List.mem_cons_of_mem _ m))]
    rfl
theorem index_some (pre t : List UInt8) (h : 10 ∉ pre) : Lib.indexByte (pre ++ 10 :: t) 10 = pre.length := by
  induction pre with
  | nil => rfl
  | cons c pre ih =>
    have hc : ¬ c = 10 := fun e => h (by rw [e]; exact List.mem_cons_self)
    rw [List.cons_append, Lib.indexByte, if_neg (by simpa using hc), ih (fun m => h (List.mem_cons_of_mem _ m))]
    rw [if_neg (by simp)]
    simp

theorem idx_calls (b o c : Nat) (l : List UInt8) (w : World) (h : BAt w b o l) :
    Calls Tryd.prog 22 #[.slice (some ⟨b, o, none⟩) l.length c, .int .u8 10] w fun e w' => e = .returned (.int .i64 (Lib.indexByte l 10)) ∧ w' = w := by
  have := Tryd.bytes_IndexByte b o l.length c (nums l) 10 w (nums_length l) h.ints
  rw [bytesOf_nums] at this
  exact this

set_option maxHeartbeats 400000 in
theorem firstLine_none (b o c : Nat) (l : List UInt8) (w : World) (h : BAt w b o l) (h10 : 10 ∉ l) :
    Calls Tryd.prog 18 #[.slice (some ⟨b, o, none⟩) l.length c] w fun e w' => e = .returned (.tuple #[.slice none 0 0, .int .i64 0, .bool false]) ∧ w' = w := by
  have cI := idx_calls b o c l w h
  rw [index_none l h10] at cI
  clear h10 h
  go_enter Tryd.func18, Tryd.ntmps18
  go_wp2_with (go_at_call 22; go_fit cI; rintro e w' ⟨rfl, rfl⟩)
  go_ret3
  exact ⟨rfl, rfl⟩

theorem trim_val (b o c : Nat) (pre : List UInt8) : Lib.trimSuffixV (some ⟨b, o, none⟩) pre.length c (nums pre) [13] = .slice (some ⟨b, o, none⟩) (Rd.trimCR pre).length c := by
  have e13 : Lib.bytesOf [13] = [13] := rfl
  show Lib.bytesTrimSuffix b o pre.length c (nums pre) [13] = _
  unfold Lib.bytesTrimSuffix Rd.trimCR
  rw [bytesOf_nums, e13]
  by_cases h : pre.getLast? = some 13
  · have hs : Lib.hasSuffix pre [13] = true := by
      unfold Lib.hasSuffix
      rw [List.isSuffixOf_iff_suffix]
      obtain ⟨l', hl'⟩ := List.getLast?_eq_some_iff.1 h
      exact ⟨l', hl'.symm⟩
    rw [if_pos hs, if_pos h]
    simp [Lib.sliceTo]
  · have hs : ¬ Lib.hasSuffix pre [13] = true := by
      unfold Lib.hasSuffix
      rw [List.isSuffixOf_iff_suffix]
      rintro ⟨l', hl'⟩
      exact h (by rw [← hl']; simp)
    rw [if_neg hs, if_neg h]

set_option maxHeartbeats 400000 in
theorem firstLine_some (b o c : Nat) (pre t : List UInt8) (w : World) (h : BAt w b o (pre ++ 10 :: t)) (h10 : 10 ∉ pre) (hc : (pre ++ 10 :: t).length ≤ c) (hl : (pre ++ 10 :: t).length ≤ 1048576) :
    Calls Tryd.prog 18 #[.slice (some ⟨b, o, none⟩) (pre ++ 10 :: t).length c] w fun e w' => e = .returned (.tuple #[.slice (some ⟨b, o, none⟩) (Rd.trimCR pre).length c, .int .i64 (pre.length + 1), .bool true]) ∧ Below w.heap.size w w' := by
  have cI := idx_calls b o c (pre ++ 10 :: t) w h
  rw [index_some pre t h10] at cI
  have hpre : BAt w b o pre := by have := h.take pre.length; simpa using this
  have kc := fun (w : World) (C : Array Value) (n c : Nat) => Lib.run_convert_bytes_const (P := Tryd.prog) w 30 5 C n c Tryd.underlying30 Tryd.underlying5
  obtain ⟨L, hL⟩ : ∃ L, (pre ++ 10 :: t).length = L := ⟨_, rfl⟩
  have hlp : pre.length < L := by rw [← hL]; simp
  rw [hL] at cI hc hl ⊢
  have HPRE : Hid (BAt w b o pre) := hpre
  clear hL hpre h h10
  go_enter Tryd.func18, Tryd.ntmps18
  go_wp2_with (go_at_call 22; go_fit cI; rintro e w' ⟨rfl, hw⟩; have hw' := hw.symm; subst hw'; clear hw)
  have cT := Tryd.bytes_TrimSuffix (some ⟨b, o, none⟩) (some ⟨w.heap.size, 0, none⟩) pre.length c 1 1 (nums pre) [13] (w.alloc (.cells #[.int .u8 13] 5 (1, 2))) (nums_length pre) rfl (by omega) (by omega)
    (fun hp => ⟨b, o, rfl, fun i hi => Lib.cell?_alloc_marked _ (HPRE.out.ints i hi)⟩)
    (fun hp => ⟨w.heap.size, 0, rfl, fun i hi => by
      obtain rfl : i = 0 := by omega
      rw [World.cell?_alloc_mark]; rfl⟩)
  rw [trim_val] at cT
  refine cT.mono ?_
  rintro e w2 ⟨rfl, hw2⟩
  have hw2' := hw2.symm; subst hw2'; clear hw2 cT
  go_wp2_with fail
  go_ret3
  exact ⟨rfl, (Below.refl _ w).alloc (Nat.le_refl _) _⟩

end Go.Proofs.Qxb6609089aDoor
