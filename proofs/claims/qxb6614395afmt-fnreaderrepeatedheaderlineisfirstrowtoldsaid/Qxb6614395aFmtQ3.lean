import Derived.Test.Qxb6614395aFmtQ2
import Derived.Deep.RegionLaw
set_option linter.unusedSimpArgs false
set_option linter.unusedVariables false
namespace Go.Proofs.Qxb6614395aFmt
open Go Go.RowKit Go.Deep Go.Extern.Stop Go.Stop Go.Extern
attribute [local go_sem] str_size str_get str_extract str_toList str_append
/-- The loops of a code, in the text's order. -/
def loopsQ : Code → List Code
  | .loop c => c :: loopsQ c
  | .seq a b => loopsQ a ++ loopsQ b
  | .block _ c => loopsQ c
  | .scope c => loopsQ c
  | .cond _ a b => loopsQ a ++ loopsQ b
  | _ => []
/-- The loop over a record's fields, and the loop inside quotes. -/
noncomputable def fBody : Code := ((Tryf.f38.body.map loopsQ).getD [])[1]?.getD .skip
noncomputable def qBody : Code := ((Tryf.f38.body.map loopsQ).getD [])[2]?.getD .skip
/-- A region by its number. -/
def findR (k : Nat) : Code → Option Code
  | .region n ops d => if n = k then some (.region n ops d) else none
  | .loop c => findR k c
  | .seq a b => match findR k a with
    | some c => some c
    | none => findR k b
  | .block _ c => findR k c
  | .scope c => findR k c
  | .cond _ a b => match findR k a with
    | some c => some c
    | none => findR k b
  | _ => none
noncomputable def regQ (k : Nat) : Code := (Tryf.f38.body.bind (findR k)).getD .skip
end Go.Proofs.Qxb6614395aFmt
