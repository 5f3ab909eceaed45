import Derived.Test.Qxb6609089aDoorW15
set_option linter.unusedSimpArgs false
set_option linter.unusedVariables false
namespace Go.Proofs.Qxb6609089aDoor
open Go Go.RowKit

/-- What unquote hands back: an error and the text as it came, or what was quoted and what is left. -/
def UQPost (t : TypeId) (x : Value) (w : World) (l : List UInt8) (res : Option (ByteArray × List UInt8)) (e : Ending) (w' : World) : Prop :=
  Below w.heap.size w w' ∧ match res with
    | none => e = .returned (.tuple #[.string ByteArray.empty, .string (str l), .iface t x])
    | some (out, rem) => e = .returned (.tuple #[.string out, .string (str rem), .nilIface])

attribute [local go_sem] str_size str_get str_extract str_toList str_append str_data

set_option maxHeartbeats 400000 in
set_option maxRecDepth 20000 in
theorem uq_short (l : List UInt8) (w : World) (t : TypeId) (x : Value) (hl : l.length < 2) (hS : Syn w t x) :
    Calls Tryd.prog 21 #[.string (str l), .bool true] w (UQPost t x w l none) := by
  have hS' : w.cell? ⟨1, 0, none⟩ = some (.iface t x) := hS
  clear hS
  go_enter Tryd.func21, Tryd.ntmps21
  go_wp2_with fail
  go_quiet (fail)
  go_wp2_with fail
  go_ret3
  exact ⟨below_drewN (Below.refl _ _) _, rfl⟩

set_option maxHeartbeats 400000 in
set_option maxRecDepth 20000 in
theorem uq_noend (q : UInt8) (l : List UInt8) (w : World) (t : TypeId) (x : Value) (h1 : 1 ≤ l.length) (hl : l.length + 1 ≤ 1000000000) (hi : Lib.indexByte l q = -1) (hS : Syn w t x) :
    Calls Tryd.prog 21 #[.string (str (q :: l)), .bool true] w (UQPost t x w (q :: l) none) := by
  have hS' : w.cell? ⟨1, 0, none⟩ = some (.iface t x) := hS
  clear hS
  have cI : ∀ w, Calls Tryd.prog 27 #[.string (str l), .int .u8 q.toNat] w fun e w' => e = .returned (.int .i64 (-1)) ∧ w' = w := fun w => by
    have := index_calls (str l) q.toNat w
    rw [str_data, show ((q.toNat : Int).toNat).toUInt8 = q by simp, hi] at this
    exact this
  clear hi
  go_enter Tryd.func21, Tryd.ntmps21
  go_wp2_with (go_at_call 27; go_fit (cI _); rintro e w' ⟨rfl, rfl⟩)
  go_quiet (fail)
  go_wp2_with fail
  go_ret3
  exact ⟨below_drewN (Below.refl _ _) _, rfl⟩

set_option maxHeartbeats 400000 in
set_option maxRecDepth 20000 in
theorem uq_other (q : UInt8) (E : Nat) (l : List UInt8) (w : World) (t : TypeId) (x : Value) (h1 : 1 ≤ l.length) (hl : l.length + 1 ≤ 1000000000) (hE : E < l.length) (hi : Lib.indexByte l q = E) (hq1 : ((q.toNat : Int) == 96) = false) (hq2 : ((q.toNat : Int) == 34) = false) (hq3 : ((q.toNat : Int) == 39) = false) (hS : Syn w t x) :
    Calls Tryd.prog 21 #[.string (str (q :: l)), .bool true] w (UQPost t x w (q :: l) none) := by
  have hS' : w.cell? ⟨1, 0, none⟩ = some (.iface t x) := hS
  clear hS
  have cI : ∀ w, Calls Tryd.prog 27 #[.string (str l), .int .u8 q.toNat] w fun e w' => e = .returned (.int .i64 E) ∧ w' = w := fun w => by
    have := index_calls (str l) q.toNat w
    rw [str_data, show ((q.toNat : Int).toNat).toUInt8 = q by simp, hi] at this
    exact this
  clear hi
  go_enter Tryd.func21, Tryd.ntmps21
  go_wp2_with (go_at_call 27; go_fit (cI _); rintro e w' ⟨rfl, rfl⟩)
  go_quiet (fail)
  go_wp2_with fail
  go_ret3
  exact ⟨below_drewN (Below.refl _ _) _, rfl⟩

set_option maxHeartbeats 400000 in
set_option maxRecDepth 20000 in
theorem uq_back_plain (E : Nat) (l : List UInt8) (w : World) (t : TypeId) (x : Value) (h1 : 1 ≤ l.length) (hl : l.length + 1 ≤ 1000000000) (hE : E < l.length) (hi : Lib.indexByte l 96 = E) (hc : Lib.indexByte ((96 :: l).take (E + 2)) 13 = -1) :
    Calls Tryd.prog 21 #[.string (str (96 :: l)), .bool true] w (UQPost t x w (96 :: l) (some (str (l.take E), l.drop (E + 1)))) := by
  have cI : ∀ w, Calls Tryd.prog 27 #[.string (str l), .int .u8 96] w fun e w' => e = .returned (.int .i64 E) ∧ w' = w := fun w => by
    have := index_calls (str l) 96 w
    rw [str_data, show ((96 : Int).toNat).toUInt8 = 96 by rfl, hi] at this
    exact this
  have cC : ∀ w, Calls Tryd.prog 28 #[.string (str ((96 :: l).take (E + 2))), .int .u8 13] w fun e w' => e = .returned (.bool false) ∧ w' = w := fun w => by
    have := contains_calls (str ((96 :: l).take (E + 2))) 13 w
    rw [str_data, show ((13 : Int).toNat).toUInt8 = 13 by rfl, hc] at this
    exact this
  rw [show E + 2 = (E + 1) + 1 from rfl, List.take_succ_cons] at cC
  clear hi hc
  go_enter Tryd.func21, Tryd.ntmps21
  go_wp2_with (first | (go_at_call 27; go_fit (cI _); rintro e w' ⟨rfl, rfl⟩) | (go_at_call 28; go_fit (cC _); rintro e w' ⟨rfl, rfl⟩))
  all_goals go_quiet (fail)
  all_goals go_wp2_with fail
  all_goals go_ret3
  all_goals exact ⟨below_drewN (Below.refl _ _) _, by simp⟩

theorem Tryd.info5' : (Tryd.prog.info? 5).map (fun i => (i.zero, i.size, i.bytes)) = some (some (.int .u8 0), 1, 1) := by kernel_rfl

/-- A buffer of bytes as the conversion to a string reads it. -/
theorem buf_string {B : Nat} {v : Value} {l : List Int} {W0 w : World} (h : Lib.OwnBuf B 5 v l.length (Lib.intCells l) W0 w) :
    (convert 30 9 v).run Tryd.prog w = .ok (.string (strOfNums l)) w := by
  by_cases hl : 0 < l.length
  · have h' : Lib.OwnBuf B 5 v (0 + l.length) ([] ++ Lib.intCells l) W0 w := by simpa using h
    obtain ⟨g, cap, rfl, hcells⟩ := buf_cells h' hl
    exact run_convert_bytes_arg w 30 5 Tryd.underlying30 Tryd.underlying5 g 0 _ cap l rfl hcells 9 Tryd.underlying9
  · obtain rfl : l = [] := by cases l with | nil => rfl | cons a b => simp at hl
    rcases h.1.2 with ⟨rfl, _⟩ | ⟨g, cap, cur, fz, rfl, _⟩
    · exact run_convert_bytes_nil w 30 5 Tryd.underlying30 Tryd.underlying5 0 0 9 Tryd.underlying9
    · exact run_convert_bytes_arg w 30 5 Tryd.underlying30 Tryd.underlying5 g 0 _ cap [] rfl (fun i hi => by simp at hi) 9 Tryd.underlying9

def nums (l : List UInt8) : List Int := l.map fun c => (c.toNat : Int)
theorem nums_length (l : List UInt8) : (nums l).length = l.length := by simp [nums]
theorem nums_str (l : List UInt8) : strOfNums (nums l) = str l := by
  apply ByteArray.ext
  simp only [strOfNums, str, nums, List.map_map]
  congr 1
  rw [show ((fun n : Int => UInt8.ofNat n.toNat) ∘ fun c : UInt8 => (c.toNat : Int)) = id from funext fun c => by simp, List.map_id]
theorem cr_step (l : List UInt8) (k : Nat) (hk : k < l.length) (acc : List Int) : acc ++ nums ((l.drop k).filter (· ≠ 13)) = (if l[k] = 13 then acc else acc ++ [(l[k].toNat : Int)]) ++ nums ((l.drop (k + 1)).filter (· ≠ 13)) := by
  rw [List.drop_eq_getElem_cons hk, List.filter_cons]
  by_cases h : l[k] = 13 <;> simp [h, nums]

set_option maxHeartbeats 1600000 in
set_option maxRecDepth 20000 in
theorem uq_back_cr (E : Nat) (l : List UInt8) (w : World) (t : TypeId) (x : Value) (h1 : 1 ≤ E) (hl : l.length + 1 ≤ 1000000000) (hE : E < l.length) (hi : Lib.indexByte l 96 = E) (hc : (Lib.indexByte ((96 :: l).take (E + 2)) 13 != -1) = true) :
    Calls Tryd.prog 21 #[.string (str (96 :: l)), .bool true] w (UQPost t x w (96 :: l) (some (str ((l.take E).filter (· ≠ 13)), l.drop (E + 1)))) := by
  obtain ⟨i0, hin, hz0, hz1, hz2⟩ := info_parts Tryd.info5'
  have cI : ∀ w, Calls Tryd.prog 27 #[.string (str l), .int .u8 96] w fun e w' => e = .returned (.int .i64 E) ∧ w' = w := fun w => by
    have := index_calls (str l) 96 w
    rw [str_data, show ((96 : Int).toNat).toUInt8 = 96 by rfl, hi] at this
    exact this
  have cC : ∀ w, Calls Tryd.prog 28 #[.string (str ((96 :: l).take (E + 2))), .int .u8 13] w fun e w' => e = .returned (.bool true) ∧ w' = w := fun w => by
    have := contains_calls (str ((96 :: l).take (E + 2))) 13 w
    rw [str_data, show ((13 : Int).toNat).toUInt8 = 13 by rfl, hc] at this
    exact this
  rw [show E + 2 = (E + 1) + 1 from rfl, List.take_succ_cons] at cC
  clear hi hc
  obtain ⟨B, hB⟩ : ∃ B, B = w.heap.size := ⟨_, rfl⟩
  have HB : Hid (B = w.heap.size) := hB
  go_enter Tryd.func21, Tryd.ntmps21
  go_wp2_with (first
    | (at_make; refine wpList_make_own _ rfl _ _ 30 rfl B 5 i0 (.int .u8 0) 1 Tryd.underlying30 hin hz0 hz1 _ _ _ (E - 1) rfl rfl (by omega) (by rw [hz2]; omega) (by unfold maxLen; omega) (by omega) ?_; intro w1 hown hg)
    | (go_at_call 27; go_fit (cI _); rintro e w' ⟨rfl, rfl⟩) | (go_at_call 28; go_fit (cC _); rintro e w' ⟨rfl, rfl⟩))
  have Hb0 : Hid (Lib.OwnBuf B 5 (.slice (some ⟨w'.heap.size, 0, none⟩) 0 (E - 1)) 0 (Lib.intCells []) w' w1) := ⟨World.ownsRowF_of hown, by have := (Below.refl w'.heap.size w').grown hg (Nat.le_refl _) (by intro k hk; cases hk); rwa [hB], by rw [hB]; exact hg.size⟩
  clear hown hg hB
  go_loopw [9, 10] (fun vb vi wr => ∃ (k : Nat) (acc : List Int), vi = .int .i64 (k + 1) ∧ k ≤ E ∧ acc.length ≤ k ∧ Hid (Lib.OwnBuf B 5 vb acc.length (Lib.intCells acc) w' wr) ∧ Hid (acc ++ nums (((l.take E).drop k).filter (· ≠ 13)) = nums ((l.take E).filter (· ≠ 13)))) (fun _ vi _ => (E + 1) - (intOf vi).toNat)
  case atStart => exact ⟨0, [], rfl, by omega, by simp, Hb0, rfl⟩
  case round =>
    obtain ⟨k, acc, rfl, hk, hak, hbr, hq⟩ := hrel
    by_cases hlt : k < E
    · have hkl : k < l.length := by omega
      have hst := cr_step (l.take E) k (by rw [List.length_take]; omega) acc
      have hg : (l.take E)[k]'(by rw [List.length_take]; omega) = l[k] := by simp
      rw [hg] at hst
      have HST : Hid (acc ++ nums (((l.take E).drop k).filter (· ≠ 13)) = (if l[k] = 13 then acc else acc ++ [(l[k].toNat : Int)]) ++ nums (((l.take E).drop (k + 1)).filter (· ≠ 13))) := hst
      clear hst hg
      by_cases h13 : l[k] = 13
      · have hn : ((l[k].toNat : Int) != 13) = false := by rw [h13]; rfl
        go_wp2_with fail
        refine ⟨⟨k + 1, acc, rfl, by omega, by omega, hbr, ?_⟩, by simp [intOf]; omega⟩
        show _ = _
        rw [← hq.out, HST.out, if_pos h13]
      · have hn : ((l[k].toNat : Int) != 13) = true := nb_k (nat_ne h13 rfl)
        go_wp2_with (at_builtin; refine Lib.wpList_append_byte rfl _ _ 30 rfl B 5 i0 Tryd.underlying30 hin hz0 hz1 hz2 _ _ _ rfl w' _ _ (by exact hbr.out) rfl (by omega) ?_; intro _ _ hb)
        refine ⟨⟨k + 1, acc ++ [(l[k].toNat : Int)], rfl, by omega, by simp; omega, ?_, ?_⟩, by simp [intOf]; omega⟩
        · simpa [Hid, Lib.intCells] using hb
        · show _ = _
          rw [← hq.out, HST.out, if_neg h13]
    · obtain rfl : k = E := by omega
      have hcv := buf_string hbr.out
      have e : acc = nums ((l.take k).filter (· ≠ 13)) := by
        rw [← hq.out, List.drop_eq_nil_of_le (by rw [List.length_take]; omega)]
        simp [nums]
      have HE : Hid (acc = nums ((l.take k).filter (· ≠ 13))) := e
      clear e
      go_wp2_with fail
      go_quiet (fail)
      go_wp2_with fail
      go_ret3
      refine ⟨below_drewN (by rw [← HB.out]; exact hbr.out.2.1) _, ?_⟩
      rw [HE.out, nums_str]
      simp

end Go.Proofs.Qxb6609089aDoor
