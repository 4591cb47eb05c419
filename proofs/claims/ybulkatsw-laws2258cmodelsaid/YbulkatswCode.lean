import Derived.Test.YbulkatswProg
/-!
Parts of the law's code, taken out of the translation by a function.
-/
namespace Go.Proofs.Ybulkatsw.Md
open Go

/-- The first region of a code. -/
def headRegion : Code → Option Nat
  | .region id _ _ => some id
  | .seq a _ => headRegion a
  | .block _ c => headRegion c
  | .scope c => headRegion c
  | .loop c => headRegion c
  | _ => none

/-- What stands from region n on, in its own sequence. -/
def from? (n : Nat) : Code → Option Code
  | .seq a b => if headRegion a = some n then some (.seq a b) else match from? n a with
    | some c => some c
    | none => from? n b
  | .block _ c => from? n c
  | .scope c => from? n c
  | .loop c => from? n c
  | .cond _ a b => match from? n a with
    | some c => some c
    | none => from? n b
  | _ => none

noncomputable def rest36 : Code := (Yba.f5.body.bind (from? 36)).getD .skip
noncomputable def rest64 : Code := (Yba.f5.body.bind (from? 64)).getD .skip
noncomputable def rest80 : Code := (Yba.f5.body.bind (from? 80)).getD .skip

end Go.Proofs.Ybulkatsw.Md
