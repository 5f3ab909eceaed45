import Derived.Test.Qxb6614395aFmtW1
import Derived.Lib.BytesEntry
set_option linter.unusedSimpArgs false
set_option linter.unusedVariables false
namespace Go.Proofs.Qxb6614395aFmt
open Go Go.RowKit Go.Deep

/-- The cells of block b from place o on are these bytes. -/
def Seg (w : World) (b o : Nat) (l : List UInt8) : Prop := ∀ i (h : i < l.length), w.cell? ⟨b, o + i, none⟩ = some (.int .u8 (l[i].toNat : Int))
namespace Seg
variable {w w' : World} {b o : Nat} {l : List UInt8}
theorem of_sat {B : List UInt8} (hB : SAt b 5 (bcells B) w) (n : Nat) : Seg w b o ((B.drop o).take n) := by
  intro i h
  simp at h
  refine hB.cell ?_
  rw [bcells_get _ _ (by omega)]
  simp
theorem of_block (h : Seg w b o l) (e : w'.heap[b]? = w.heap[b]?) : Seg w' b o l := fun i hi => by
  rw [World.cell?_of_block (w := w) e]; exact h i hi
theorem drewN (h : Seg w b o l) (n : Nat) : Seg (w.drewN n) b o l := h
theorem take (h : Seg w b o l) (n : Nat) : Seg w b o (l.take n) := fun i hi => by
  have := h i (by simp at hi; omega)
  simpa using this
theorem drop (h : Seg w b o l) (n : Nat) : Seg w b (o + n) (l.drop n) := fun i hi => by
  have := h (n + i) (by simp at hi; omega)
  simpa [Nat.add_assoc] using this
theorem xs (h : Seg w b o l) : ∀ i, i < l.length → w.cell? ⟨b, o + i, none⟩ = some (.int .u8 ((l.map fun c => (c.toNat : Int)).getD i 0)) := fun i hi => by
  rw [h i hi, List.getD_eq_getElem?_getD]
  simp [hi]
end Seg
theorem bytesOf_map (l : List UInt8) : Lib.bytesOf (l.map fun c => (c.toNat : Int)) = l := by
  unfold Lib.bytesOf
  rw [List.map_map]
  conv => rhs; rw [← List.map_id l]
  congr 1
  funext c
  simp

/-- The model's entry IndexByte at a slice. -/
theorem run_index39 (w : World) (b o n cap : Nat) (l : List UInt8) (hn : l.length = n) (h : Seg w b o l) (cv : Int) :
    (callFunc 39 #[.slice (some ⟨b, o, none⟩) n cap, .int .u8 cv]).run Tryf.prog w = .ok (.value (.int .i64 (Lib.indexByte l cv.toNat.toUInt8))) w := by
  rw [run_callFunc_extern Tryf.func39 (by kernel_rfl) (by kernel_rfl) (by kernel_rfl) (e := Extern.BytealgIndexByte.indexByte) (by kernel_rfl)]
  have := Lib.run_indexByteSlice (P := Tryf.prog) w b o n cap (l.map fun c => (c.toNat : Int)) (by simpa using hn) (by subst hn; exact h.xs) cv
  rw [this, bytesOf_map]
  rfl

/-- The model's entry Count at a slice. -/
theorem run_count42 (w : World) (b o n cap : Nat) (l : List UInt8) (hn : l.length = n) (h : Seg w b o l) (cv : Int) :
    (callFunc 42 #[.slice (some ⟨b, o, none⟩) n cap, .int .u8 cv]).run Tryf.prog w = .ok (.value (.int .i64 ((l.count cv.toNat.toUInt8 : Nat) : Int))) w := by
  rw [run_callFunc_extern Tryf.func42 (by kernel_rfl) (by kernel_rfl) (by kernel_rfl) (e := Extern.BytealgCount.count) (by kernel_rfl)]
  have hl := Lib.run_loadBytesX (P := Tryf.prog) w (l.map fun c => (c.toNat : Int)) ⟨b, o, none⟩ .empty (fun j x hj => by
    have hjl : j < l.length := by simpa using (List.getElem?_eq_some_iff.1 hj).1
    have e : (⟨b, o, none⟩ : Addr).add j = ⟨b, o + j, none⟩ := by unfold Addr.add; split <;> simp_all
    rw [e, h j hjl]
    simp [hjl] at hj
    rw [hj])
  rw [bytesOf_map] at hl
  simp only [List.length_map, hn] at hl
  have hs := Lib.run_countString (P := Tryf.prog) ⟨l.toArray⟩ cv w
  have he : (⟨ByteArray.empty.data ++ l.toArray⟩ : ByteArray) = ⟨l.toArray⟩ := by
    apply ByteArray.ext
    show (#[] : Array UInt8) ++ l.toArray = l.toArray
    simp
  rw [he] at hl
  have hc : (Extern.BytealgCount.count #[.slice (some ⟨b, o, none⟩) n cap, .int .u8 cv]).run Tryf.prog w = .ok (.int .i64 ((l.count cv.toNat.toUInt8 : Nat) : Int)) w := by
    change Sem.run Tryf.prog (do
      let b ← Extern.Bytes.bytesOf (.slice (some ⟨b, o, none⟩) n cap)
      let c' ← Extern.Bytes.asByte (.int .u8 cv)
      pure (goInt (b.foldl (fun n x => if x == c' then n + 1 else n) (0 : Nat)))) w = _
    change Sem.run Tryf.prog (do
      let b ← Extern.Bytes.bytesOf (.string ⟨l.toArray⟩)
      let c' ← Extern.Bytes.asByte (.int .u8 cv)
      pure (goInt (b.foldl (fun n x => if x == c' then n + 1 else n) (0 : Nat)))) w = _ at hs
    simp only [Extern.Bytes.bytesOf, Sem.run_bind, Sem.run_pure, hl, Result.andThen] at hs ⊢
    exact hs
  rw [hc]
  rfl

set_option maxHeartbeats 400000 in
theorem index_calls (w : World) (b o n cap : Nat) (l : List UInt8) (hn : l.length = n) (h : Seg w b o l) (cv : Int) :
    Calls Tryf.prog 30 #[.slice (some ⟨b, o, none⟩) n cap, .int .u8 cv] w fun e w' => e = .returned (.int .i64 (Lib.indexByte l cv.toNat.toUInt8)) ∧ w' = w := by
  have hr := run_index39 w b o n cap l hn h cv
  go_enter Tryf.func30, Tryf.ntmps30
  go_wp2
  go_ret
  exact ⟨rfl, rfl⟩

set_option maxHeartbeats 400000 in
theorem count_calls (w : World) (b o n cap d : Nat) (l : List UInt8) (hn : l.length = n) (h : Seg w b o l) (cv : Int) (hd : w.cell? ⟨d, 0, none⟩ = some (.int .u8 cv)) :
    Calls Tryf.prog 32 #[.slice (some ⟨b, o, none⟩) n cap, .slice (some ⟨d, 0, none⟩) 1 1] w fun e w' => e = .returned (.int .i64 ((l.count cv.toNat.toUInt8 : Nat) : Int)) ∧ w' = w := by
  have hr := run_count42 w b o n cap l hn h cv
  go_enter Tryf.func32, Tryf.ntmps32
  go_wp2
  go_ret
  exact ⟨rfl, rfl⟩
end Go.Proofs.Qxb6614395aFmt
