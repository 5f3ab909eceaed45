import Derived.WalkKit
import Derived.Laws.BytesArg
import Derived.Lib.Strings
import Derived.Lib.BufferWrite
import Derived.Deep.OwnRows
import Derived.BigQuiet
set_option linter.unusedSimpArgs false
set_option linter.unusedVariables false
namespace Go.Proofs.Qxb6614395aFmt
open Go Go.RowKit Go.Deep

/-- A text by its list of bytes; a name that simp leaves standing. -/
def str (l : List UInt8) : ByteArray := ⟨l.toArray⟩
theorem str_size (l : List UInt8) : (str l).size = l.length := by simp [str, ByteArray.size]
theorem str_get (l : List UInt8) (i : Nat) (h : i < (str l).size) : (str l)[i] = l[i]'(by rw [← str_size]; exact h) := by simp [str, ByteArray.getElem_eq_getElem_data]
theorem str_extract (l : List UInt8) (a b : Nat) : (str l).extract a b = str ((l.take b).drop a) := by
  apply ByteArray.ext
  simp [str, List.drop_take]
theorem str_toList (l : List UInt8) : (str l).toList = l := by rw [Lib.toList_data]; rfl
theorem str_data (l : List UInt8) : (str l).data.toList = l := rfl
theorem str_of (s : ByteArray) : s = str s.data.toList := by cases s; simp [str]
theorem str_append (a b : List UInt8) : str a ++ str b = str (a ++ b) := by
  apply ByteArray.ext
  simp [str]
theorem str_inj {a b : List UInt8} : str a = str b ↔ a = b := by
  constructor
  · intro h; rw [← str_toList a, h, str_toList]
  · intro h; rw [h]

/-- Bytes as cells. -/
def bcells (l : List UInt8) : List Value := l.map fun c => .int .u8 (c.toNat : Int)
theorem bcells_length (l : List UInt8) : (bcells l).length = l.length := by simp [bcells]
theorem bcells_append (a b : List UInt8) : bcells (a ++ b) = bcells a ++ bcells b := by simp [bcells]
theorem bcells_take (l : List UInt8) (n : Nat) : bcells (l.take n) = (bcells l).take n := by simp [bcells, List.map_take]
theorem bcells_drop (l : List UInt8) (n : Nat) : bcells (l.drop n) = (bcells l).drop n := by simp [bcells, List.map_drop]
theorem bcells_get (l : List UInt8) (i : Nat) (h : i < l.length) : (bcells l)[i]? = some (.int .u8 (l[i].toNat : Int)) := by simp [bcells, h]
theorem bcells_one (l : List UInt8) : ∀ v ∈ bcells l, v.oneCell' = true := by
  intro v hv
  simp only [bcells, List.mem_map] at hv
  obtain ⟨c, -, rfl⟩ := hv
  rfl
/-- Block b holds these cells, none frozen. -/
def SAt (b : Nat) (t : TypeId) (cs : List Value) (w : World) : Prop := w.heap[b]? = some (.cells cs.toArray t (0, 0))
namespace SAt
variable {b : Nat} {t : TypeId} {cs : List Value} {w w' : World}
theorem cell (h : SAt b t cs w) {i : Nat} {v : Value} (e : cs[i]? = some v) : w.cell? ⟨b, i, none⟩ = some v := by
  unfold SAt at h
  simp [World.cell?, h, e]
theorem frozen (h : SAt b t cs w) (i : Nat) : w.frozen? ⟨b, i, none⟩ = false := by
  unfold SAt at h
  simp [World.frozen?, h]
theorem lt (h : SAt b t cs w) : b < w.heap.size := (Array.getElem?_eq_some_iff.1 h).1
theorem of_block (h : SAt b t cs w) (e : w'.heap[b]? = w.heap[b]?) : SAt b t cs w' := e.trans h
theorem set (h : SAt b t cs w) (i : Nat) (v : Value) : SAt b t (cs.set i v) (w.setCell ⟨b, i, none⟩ v) := by
  unfold SAt at h ⊢
  simp [World.setCell, Array.getElem?_modify, h]
theorem set' (h : SAt b t cs w) (i : Nat) (v : Value) {cs' : List Value} (e : cs.set i v = cs') : SAt b t cs' (w.setCell ⟨b, i, none⟩ v) := e ▸ h.set i v
theorem other (h : SAt b t cs w) {a : Addr} (ha : b ≠ a.block) (v : Value) : SAt b t cs (w.setCell a v) := h.of_block (blk_setCell_other _ _ _ _ ha)
theorem alloc (h : SAt b t cs w) (o : Obj) : SAt b t cs (w.alloc o) := h.of_block (blk_alloc_lt _ _ _ h.lt)
theorem drewN (h : SAt b t cs w) (n : Nat) : SAt b t cs (w.drewN n) := h
theorem drew (h : SAt b t cs w) : SAt b t cs w.drew := h
theorem row (h : SAt b t cs w) (cs' : List Value) : SAt b t cs' (w.setRow b cs'.toArray) := setRow_heap w b _ _ _ _ h
theorem rowOther (h : SAt b t cs w) {k : Nat} (hk : b ≠ k) (c : Array Value) : SAt b t cs (w.setRow k c) := h.of_block (setRow_other _ _ _ _ hk)
theorem new (w : World) (cs : List Value) (t : TypeId) : SAt w.heap.size t cs (w.alloc (.cells cs.toArray t)) := blk_alloc_new _ _
theorem inj {cs' : List Value} {t' : TypeId} (h : SAt b t cs w) (h' : SAt b t' cs' w) : cs = cs' := by
  unfold SAt at h h'
  rw [h] at h'
  simpa using (Obj.cells.inj (Option.some.inj h')).1
end SAt

/-- A store of what lies there already. -/
theorem SAt.setSelf {b : Nat} {t : TypeId} {cs : List Value} {w : World} (h : SAt b t cs w) {i : Nat} {v : Value} (e : cs[i]? = some v) : w.setCell ⟨b, i, none⟩ v = w := by
  rw [setCell_eq_setRow w b i _ t _ v h]
  have : cs.toArray.setIfInBounds i v = cs.toArray := by
    obtain ⟨hi, he⟩ := List.getElem?_eq_some_iff.1 e
    apply Array.ext'
    simp [← he]
  rw [this]
  exact setRow_self w b _ t _ h

/-- Only draws. -/
def Quiet (w w' : World) : Prop := ∃ k, w' = w.drewN k
namespace Quiet
variable {w w' : World}
theorem refl (w : World) : Quiet w w := ⟨0, rfl⟩
theorem drewN (h : Quiet w w') (n : Nat) : Quiet w (w'.drewN n) := by
  obtain ⟨k, rfl⟩ := h
  exact ⟨k + n, by simp [World.drewN, Nat.add_assoc]⟩
theorem drew (h : Quiet w w') : Quiet w w'.drew := h.drewN 1
theorem sat {b : Nat} {t : TypeId} {cs : List Value} (h : Quiet w w') (hs : SAt b t cs w) : SAt b t cs w' := by
  obtain ⟨k, rfl⟩ := h
  exact hs
end Quiet

/-- Block k holds cells, none frozen. -/
def IsC (k : Nat) (w : World) : Prop := ∃ c t, w.heap[k]? = some (.cells c t (0, 0))
theorem SAt.isC {b : Nat} {t : TypeId} {cs : List Value} {w : World} (h : SAt b t cs w) : IsC b w := ⟨_, _, h⟩
theorem IsC.same {k : Nat} {w w' : World} (h : IsC k w) (e : w'.heap[k]? = w.heap[k]?) : IsC k w' := by
  obtain ⟨c, t, h⟩ := h
  exact ⟨c, t, e.trans h⟩
theorem IsC.lt {k : Nat} {w : World} (h : IsC k w) : k < w.heap.size := by
  obtain ⟨c, t, h⟩ := h
  exact (Array.getElem?_eq_some_iff.1 h).1
theorem IsC.alloc {k : Nat} {w : World} (h : IsC k w) (o : Obj) : IsC k (w.alloc o) := h.same (blk_alloc_lt _ _ _ h.lt)
theorem IsC.setRow {k : Nat} {w : World} (h : IsC k w) (b : Nat) (cs : Array Value) : IsC k (w.setRow b cs) := by
  by_cases e : k = b
  · subst e
    obtain ⟨c, t, h⟩ := h
    exact ⟨cs, t, setRow_heap w k c cs t _ h⟩
  · exact h.same (setRow_other _ _ _ _ e)
theorem IsC.setCell {k : Nat} {w : World} (h : IsC k w) (a : Addr) (v : Value) : IsC k (w.setCell a v) := by
  by_cases e : k = a.block
  · subst e
    obtain ⟨c, t, h⟩ := h
    refine ⟨if a.spot.isSome = true then c else c.setIfInBounds a.off v, t, ?_⟩
    by_cases hs : a.spot.isSome = true <;> simp [World.setCell, Array.getElem?_modify, h, hs]
  · exact h.same (blk_setCell_other _ _ _ _ e)

/-- Only the blocks of S, and new ones, may have changed. -/
structure Only (S : Nat → Prop) (w w' : World) : Prop where
  os : w'.os = w.os
  tape : w'.tape = w.tape
  output : w'.output = w.output
  size : w.heap.size ≤ w'.heap.size
  block : ∀ k, k < w.heap.size → ¬ S k → w'.heap[k]? = w.heap[k]?
  cells : ∀ k, IsC k w → IsC k w'
namespace Only
variable {S S' : Nat → Prop} {w w' w'' : World}
theorem refl (S : Nat → Prop) (w : World) : Only S w w := ⟨rfl, rfl, rfl, Nat.le_refl _, fun _ _ _ => rfl, fun _ h => h⟩
theorem trans (h : Only S w w') (k : Only S' w' w'') (hs : ∀ i, i < w.heap.size → S' i → S i) : Only S w w'' :=
  ⟨k.os.trans h.os, k.tape.trans h.tape, k.output.trans h.output, Nat.le_trans h.size k.size, fun i hi hn => (k.block i (Nat.lt_of_lt_of_le hi h.size) (fun x => hn (hs i hi x))).trans (h.block i hi hn), fun i hi => k.cells i (h.cells i hi)⟩
theorem mono (h : Only S w w') (hs : ∀ i, i < w.heap.size → S i → S' i) : Only S' w w' := ⟨h.os, h.tape, h.output, h.size, fun i hi hn => h.block i hi (fun x => hn (hs i hi x)), h.cells⟩
theorem drew (h : Only S w w') : Only S w w'.drew := ⟨h.os, h.tape, h.output, h.size, h.block, h.cells⟩
theorem drewN (h : Only S w w') (n : Nat) : Only S w (w'.drewN n) := ⟨h.os, h.tape, h.output, h.size, h.block, h.cells⟩
theorem alloc (h : Only S w w') (o : Obj) : Only S w (w'.alloc o) :=
  ⟨h.os, h.tape, h.output, by rw [nblk_alloc]; have := h.size; omega, fun k hk hn => (blk_alloc_lt _ _ _ (by have := h.size; omega)).trans (h.block k hk hn), fun k hk => (h.cells k hk).alloc o⟩
theorem setCell (h : Only S w w') {a : Addr} (ha : S a.block ∨ w.heap.size ≤ a.block) (v : Value) : Only S w (w'.setCell a v) :=
  ⟨h.os, h.tape, h.output, by rw [nblk_setCell]; exact h.size, fun k hk hn => (blk_setCell_other _ _ _ _ (by rintro rfl; rcases ha with ha | ha; exact hn ha; omega)).trans (h.block k hk hn), fun k hk => (h.cells k hk).setCell a v⟩
theorem setRow (h : Only S w w') {b : Nat} (hb : S b ∨ w.heap.size ≤ b) (c : Array Value) : Only S w (w'.setRow b c) :=
  ⟨h.os, h.tape, h.output, by rw [setRow_size]; exact h.size, fun k hk hn => (setRow_other _ _ _ _ (by rintro rfl; rcases hb with ha | ha; exact hn ha; omega)).trans (h.block k hk hn), fun k hk => (h.cells k hk).setRow b c⟩
theorem sat {b : Nat} {t : TypeId} {cs : List Value} (h : Only S w w') (hb : SAt b t cs w) (hn : ¬ S b) : SAt b t cs w' := hb.of_block (h.block b hb.lt hn)
theorem cell (h : Only S w w') {a : Addr} {v : Value} (hc : w.cell? a = some v) (hn : ¬ S a.block) : w'.cell? a = some v := by
  rw [World.cell?_of_block (w := w) (h.block _ (World.block_lt_of_cell? w a hc) hn)]; exact hc
theorem quiet (h : Only S w w') (q : Quiet w' w'') : Only S w w'' := by
  obtain ⟨k, rfl⟩ := q
  exact h.drewN k
end Only
end Go.Proofs.Qxb6614395aFmt
