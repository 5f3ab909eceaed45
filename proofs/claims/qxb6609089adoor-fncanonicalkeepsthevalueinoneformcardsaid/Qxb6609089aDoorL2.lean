import Derived.WalkKit
import Derived.Laws.BytesArg
import Derived.Lib.QuoteLoop
import Derived.Lib.ValidU
import Derived.Lib.Bytealg
set_option linter.unusedSimpArgs false
set_option linter.unusedVariables false
namespace Go.Proofs.Qxb6609089aDoor
open Go Go.RowKit

/-- A text by its list of bytes; a name that simp leaves standing. -/
def str (l : List UInt8) : ByteArray := ⟨l.toArray⟩
theorem str_size (l : List UInt8) : (str l).size = l.length := by simp [str, ByteArray.size]
theorem str_get (l : List UInt8) (i : Nat) (h : i < (str l).size) : (str l)[i] = l[i]'(by rw [← str_size]; exact h) := by simp [str, ByteArray.getElem_eq_getElem_data]
theorem str_extract (l : List UInt8) (a b : Nat) : (str l).extract a b = str ((l.take b).drop a) := by
  apply ByteArray.ext
  simp [str, List.drop_take]
theorem str_toList (l : List UInt8) : (str l).toList = l := by rw [Lib.toList_data]; rfl
theorem str_data (l : List UInt8) : (str l).data.toList = l := rfl
theorem str_of (s : ByteArray) : s = str s.data.toList := by cases s; simp [str]
theorem str_append (a b : List UInt8) : str a ++ str b = str (a ++ b) := by
  apply ByteArray.ext
  simp [str]
theorem str_inj {a b : List UInt8} : str a = str b ↔ a = b := by
  constructor
  · intro h; rw [← str_toList a, h, str_toList]
  · intro h; rw [h]

namespace Uq

/-- The value of a hexadecimal digit. -/
def unhex (c : UInt8) : Option Int :=
  if 48 ≤ c.toNat ∧ c.toNat ≤ 57 then some ((c.toNat : Int) - 48)
  else if 97 ≤ c.toNat ∧ c.toNat ≤ 102 then some ((c.toNat : Int) - 97 + 10)
  else if 65 ≤ c.toNat ∧ c.toNat ≤ 70 then some ((c.toNat : Int) - 65 + 10)
  else none

/-- One more digit: '(v shifted by four) or x' of an int32. -/
def hexStep (v x : Int) : Int := bits BinOp.or IntKind.i32 (wrap32 (v * 16)) x
def hexv : List UInt8 → Int → Option Int
  | [], v => some v
  | c :: t, v => match unhex c with | none => none | some x => hexv t (hexStep v x)
def octV (d a b : UInt8) : Int := bits BinOp.or IntKind.i32 (wrap32 (bits BinOp.or IntKind.i32 (((d.toNat : Int) - 48) * 8) ((a.toNat : Int) - 48) * 8)) ((b.toNat : Int) - 48)

/-- The one-letter escapes. -/
def simpleEsc : List (UInt8 × Int) := [(97, 7), (98, 8), (102, 12), (110, 10), (114, 13), (116, 9), (118, 11), (92, 92)]

def ucx (s : List UInt8) : Option (Int × Bool × List UInt8) :=
  if s.length < 2 then none else match hexv (s.take 2) 0 with | none => none | some v => some (v, false, s.drop 2)
def ucu (n : Nat) (s : List UInt8) : Option (Int × Bool × List UInt8) :=
  if s.length < n then none else match hexv (s.take n) 0 with | none => none | some v => if Lib.validRune v then some (v, true, s.drop n) else none
def oct (d : UInt8) : List UInt8 → Option (Int × Bool × List UInt8)
  | a :: b :: r =>
    if (48 ≤ a.toNat ∧ a.toNat ≤ 55) ∧ (48 ≤ b.toNat ∧ b.toNat ≤ 55) then
      (if 255 < octV d a b then none else some (octV d a b, false, r))
    else none
  | _ => none
def esc (q d : UInt8) (s : List UInt8) : Option (Int × Bool × List UInt8) :=
  match simpleEsc.lookup d with
  | some v => some (v, false, s)
  | none =>
    if d = 120 then ucx s else if d = 117 then ucu 4 s else if d = 85 then ucu 8 s
    else if 48 ≤ d.toNat ∧ d.toNat ≤ 55 then oct d s
    else if d = q then some ((d.toNat : Int), false, s) else none
/-- strconv.UnquoteChar, where the first byte is not the quote. -/
def uc (q : UInt8) : List UInt8 → Option (Int × Bool × List UInt8)
  | [] => none
  | c :: s =>
    if 128 ≤ c.toNat then some ((Utf8.decode (str (c :: s)) 0).1, true, (c :: s).drop (Utf8.decode (str (c :: s)) 0).2)
    else if c ≠ 92 then some ((c.toNat : Int), false, s)
    else match s with
      | [] => none
      | d :: s => esc q d s

/-- What a rune adds to the buffer. -/
def put (r : Int) (m : Bool) : List Int := if r < 128 ∨ m = false then [r % 256] else Lib.encodeRuneZ r
/-- The loop over a text with escapes. -/
def uloop (q : UInt8) : Nat → List UInt8 → List Int → Option (List Int × List UInt8)
  | 0, _, _ => none
  | _ + 1, [], _ => none
  | f + 1, c :: s, acc =>
    if c = q then some (acc, s)
    else match uc q (c :: s) with
      | none => none
      | some (r, m, tl) =>
        if c = 10 then none
        else if q = 39 then (match tl with | c' :: s' => if c' = q then some (acc ++ put r m, s') else none | [] => none)
        else uloop q f tl (acc ++ put r m)
/-- Is there no escape and no line feed, and is what stands between the quotes valid? -/
def fast (q : UInt8) (E : Nat) (l : List UInt8) : Bool :=
  !(Lib.indexByte ((q :: l).take (E + 2)) 92 != -1) && !(Lib.indexByte ((q :: l).take (E + 2)) 10 != -1) &&
  (if q = 34 then Lib.validD (l.take E) else decide ((Lib.decodeGoB (str (l.take E))).2 = E) && (decide ((Lib.decodeGoB (str (l.take E))).1 ≠ 65533) || decide ((Lib.decodeGoB (str (l.take E))).2 ≠ 1)))
/-- strconv.unquote(in, true). -/
def unquote : List UInt8 → Option (ByteArray × List UInt8)
  | [] => none
  | q :: l =>
    if l.length < 1 then none
    else if Lib.indexByte l q = -1 then none
    else if q = 96 then some (str ((l.take (Lib.indexByte l q).toNat).filter (· ≠ 13)), l.drop ((Lib.indexByte l q).toNat + 1))
    else if q = 34 ∨ q = 39 then
      (if fast q (Lib.indexByte l q).toNat l then some (str (l.take (Lib.indexByte l q).toNat), l.drop ((Lib.indexByte l q).toNat + 1))
       else (uloop q (l.length + 1) l []).map fun p => (strOfNums p.1, p.2))
    else none
/-- The value of strconv.Unquote: empty where there is an error. -/
def unq (l : List UInt8) : ByteArray :=
  match unquote l with
  | none => ByteArray.empty
  | some (out, rem) => if rem = [] then out else ByteArray.empty

end Uq
end Go.Proofs.Qxb6609089aDoor
