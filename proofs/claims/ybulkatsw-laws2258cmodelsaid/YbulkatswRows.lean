/-
  No cell of these rows narrows 'for every input' (looked for: loops, veiled, ifaces, maps, wideKeys, modest, calm, conditions, laid).
  DERIVED. THE GIVEN ROWS OF THIS SEAT. 3 by the template 'for every input the law returns true; each argument reads behind the call as it read before'; 0 by the template 'total and deterministic' (their statements: YbulkatswTotals.lean).
  GIVEN WITH THE SEED: the statements are not yours to turn. If you find one false, say at which input.
  Laid BY PROGRAM, IN A SANDBOX (cutbox-rows.mjs): the forced cells as the released guide's own fill.sh prints them over the translation 9ed41e747c2db370… (all of the seat's roots in one cut). By AI agents, Wed Nov 11 2026. No macro, syntax, notation, axiom, sorry.
-/
import Derived.Test.YbulkatswChecked
import GoSem.Claim
import GoSem.ClaimJoined
import GoSem.ClaimMapViews
import Derived.JoinedTies
import Derived.KernelRfl
namespace Go.Proofs.Ybulkatsw
/- THE CELL 'sum', in the pinned program and in every row, IS THE sha256 OF THE DUMP (.gsa) THAT YbulkatswProg.lean LOADS. Nothing in Lean hashes anything: it is a label: what it is worth is what the hold of that sum in a sandbox is worth. -/
noncomputable def Yba.pinned : Pinned := { name := "ybulkatsw", sum := "9ed41e747c2db370d98e3fa1daf44a6eada6742ab9e8e86245fddc9f0b98031a", checked := Yba.checked }
namespace Rows
def none {H : Type} : Left H := { results := [], args := [] }

/-- 'knotwise.LawS2258BFilter': WHATEVER THE INPUT: true; the input reads as it did. -/
def lawS2258BFilterSpec : ChangeSpec := { name := "lawS2258BFilter", fn := fun _ => fun
  | [d] => { results := [.lit (.bool true)], args := [d] }
  | _ => none }
def lawS2258BFilterRow : OpenClaim := { program := "ybulkatsw", sum := "9ed41e747c2db370d98e3fa1daf44a6eada6742ab9e8e86245fddc9f0b98031a", func := "example.com/knotwise/knotwise.LawS2258BFilter", spec := "lawS2258BFilter", apart := false }
def LawS2258BFilterSaid : Prop := lawS2258BFilterRow.holds Yba.pinned (OpenSpec.ofChange lawS2258BFilterSpec)

/-- ITS FALSE NEIGHBOUR: 'it returns false'. Refute it at one input. -/
def lawS2258BFilterWrong : ChangeSpec := { name := "lawS2258BFilter", fn := fun _ => fun
  | [d] => { results := [.lit (.bool false)], args := [d] }
  | _ => none }
def LawS2258BFilterWrongFalsely : Prop := lawS2258BFilterRow.holds Yba.pinned (OpenSpec.ofChange lawS2258BFilterWrong)

/-- 'knotwise.LawS2258BOwnList': WHATEVER THE INPUT: true; the input reads as it did. -/
def lawS2258BOwnListSpec : ChangeSpec := { name := "lawS2258BOwnList", fn := fun _ => fun
  | [d] => { results := [.lit (.bool true)], args := [d] }
  | _ => none }
def lawS2258BOwnListRow : OpenClaim := { program := "ybulkatsw", sum := "9ed41e747c2db370d98e3fa1daf44a6eada6742ab9e8e86245fddc9f0b98031a", func := "example.com/knotwise/knotwise.LawS2258BOwnList", spec := "lawS2258BOwnList", apart := false }
def LawS2258BOwnListSaid : Prop := lawS2258BOwnListRow.holds Yba.pinned (OpenSpec.ofChange lawS2258BOwnListSpec)

/-- ITS FALSE NEIGHBOUR: 'it returns false'. Refute it at one input. -/
def lawS2258BOwnListWrong : ChangeSpec := { name := "lawS2258BOwnList", fn := fun _ => fun
  | [d] => { results := [.lit (.bool false)], args := [d] }
  | _ => none }
def LawS2258BOwnListWrongFalsely : Prop := lawS2258BOwnListRow.holds Yba.pinned (OpenSpec.ofChange lawS2258BOwnListWrong)

/-- 'bench.LawS2258CModel': WHATEVER THE INPUT: true; the input reads as it did. -/
def lawS2258CModelSpec : ChangeSpec := { name := "lawS2258CModel", fn := fun _ => fun
  | [d] => { results := [.lit (.bool true)], args := [d] }
  | _ => none }
def lawS2258CModelRow : OpenClaim := { program := "ybulkatsw", sum := "9ed41e747c2db370d98e3fa1daf44a6eada6742ab9e8e86245fddc9f0b98031a", func := "example.com/knotwise/knotwise/internal/bench.LawS2258CModel", spec := "lawS2258CModel", apart := false }
def LawS2258CModelSaid : Prop := lawS2258CModelRow.holds Yba.pinned (OpenSpec.ofChange lawS2258CModelSpec)

/-- ITS FALSE NEIGHBOUR: 'it returns false'. Refute it at one input. -/
def lawS2258CModelWrong : ChangeSpec := { name := "lawS2258CModel", fn := fun _ => fun
  | [d] => { results := [.lit (.bool false)], args := [d] }
  | _ => none }
def LawS2258CModelWrongFalsely : Prop := lawS2258CModelRow.holds Yba.pinned (OpenSpec.ofChange lawS2258CModelWrong)

end Rows
end Go.Proofs.Ybulkatsw
