import Derived.WalkKit
import Derived.Laws.BytesArg
import Derived.Lib.Strings
set_option linter.unusedSimpArgs false
set_option linter.unusedVariables false
namespace Go.Proofs.Qxb6606206aGreatDoor
open Go Go.RowKit

/-- A text by its list of bytes; a name that simp leaves standing. -/
def str (l : List UInt8) : ByteArray := ⟨l.toArray⟩
theorem str_size (l : List UInt8) : (str l).size = l.length := by simp [str, ByteArray.size]
theorem str_get (l : List UInt8) (i : Nat) (h : i < (str l).size) : (str l)[i] = l[i]'(by rw [← str_size]; exact h) := by simp [str, ByteArray.getElem_eq_getElem_data]
theorem str_extract (l : List UInt8) (a b : Nat) : (str l).extract a b = str ((l.take b).drop a) := by
  apply ByteArray.ext
  simp [str, List.drop_take]
theorem str_toList (l : List UInt8) : (str l).toList = l := by rw [Lib.toList_data]; rfl
theorem str_data (l : List UInt8) : (str l).data.toList = l := rfl
theorem str_of (s : ByteArray) : s = str s.data.toList := by cases s; simp [str]
theorem str_append (a b : List UInt8) : str a ++ str b = str (a ++ b) := by
  apply ByteArray.ext
  simp [str]
theorem str_inj {a b : List UInt8} : str a = str b ↔ a = b := by
  constructor
  · intro h; rw [← str_toList a, h, str_toList]
  · intro h; rw [h]

/-- A letter made small, as commonPrefixLenIgnoreCase does it. -/
def lo (c : UInt8) : Int := if 65 ≤ (c.toNat : Int) ∧ (c.toNat : Int) ≤ 90 then (c.toNat : Int) + 32 else c.toNat
def cpl : List UInt8 → List UInt8 → Nat
  | a :: s, b :: p => if lo a = b.toNat then cpl s p + 1 else 0
  | _, _ => 0
theorem cpl_le : ∀ s p, cpl s p ≤ s.length ∧ cpl s p ≤ p.length
  | [], _ => by simp [cpl]
  | _ :: _, [] => by simp [cpl]
  | a :: s, b :: p => by
    have := cpl_le s p
    unfold cpl
    split <;> simp <;> omega
theorem cpl_drop (s p : List UInt8) (i : Nat) (h1 : i < s.length) (h2 : i < p.length) : cpl (s.drop i) (p.drop i) = if lo s[i] = p[i].toNat then cpl (s.drop (i + 1)) (p.drop (i + 1)) + 1 else 0 := by
  rw [List.drop_eq_getElem_cons h1, List.drop_eq_getElem_cons h2]
  rfl
theorem cpl_end (s p : List UInt8) (i : Nat) (h : s.length ≤ i ∨ p.length ≤ i) : cpl (s.drop i) (p.drop i) = 0 := by
  rcases h with h | h
  · rw [List.drop_eq_nil_of_le h]; rfl
  · rw [List.drop_eq_nil_of_le h]; cases s.drop i <;> rfl
end Go.Proofs.Qxb6606206aGreatDoor
namespace Go.Proofs.Qxb6606206aGreatDoor
open Go
/-- 'lower': a byte with the bit 32 set. -/
def lowI (c : Int) : Int := bits .or .u8 c 32
/-- underscoreOK's digits. -/
def isd (hex : Bool) (b : UInt8) : Bool := (decide (48 ≤ (b.toNat : Int)) && decide ((b.toNat : Int) ≤ 57)) || (hex && decide (97 ≤ lowI b.toNat) && decide (lowI b.toNat ≤ 102))
def ul (hex : Bool) : Int → List UInt8 → Bool
  | c, [] => c != 95
  | c, b :: t => if isd hex b then ul hex 48 t else if (b.toNat : Int) = 95 then (if c = 48 then ul hex 95 t else false) else if c = 95 then false else ul hex 33 t
theorem ul_drop (hex : Bool) (c : Int) (l : List UInt8) (i : Nat) (h : i < l.length) : ul hex c (l.drop i) = if isd hex l[i] then ul hex 48 (l.drop (i + 1)) else if (l[i].toNat : Int) = 95 then (if c = 48 then ul hex 95 (l.drop (i + 1)) else false) else if c = 95 then false else ul hex 33 (l.drop (i + 1)) := by
  rw [List.drop_eq_getElem_cons h]; rfl
theorem ul_end (hex : Bool) (c : Int) (l : List UInt8) (i : Nat) (h : l.length ≤ i) : ul hex c (l.drop i) = (c != 95) := by
  rw [List.drop_eq_nil_of_le h]; rfl
end Go.Proofs.Qxb6606206aGreatDoor
