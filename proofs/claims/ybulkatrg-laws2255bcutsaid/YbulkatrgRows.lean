/-
  No cell of these rows narrows 'for every input' (looked for: loops, veiled, ifaces, maps, wideKeys, modest, calm, conditions, laid).
  DERIVED. THE GIVEN ROWS OF THIS SEAT. 4 by the template 'for every input the law returns true; each argument reads behind the call as it read before'; 0 by the template 'total and deterministic' (their statements: YbulkatrgTotals.lean).
  GIVEN WITH THE SEED: the statements are not yours to turn. If you find one false, say at which input.
  Laid BY PROGRAM, IN A SANDBOX (cutbox-rows.mjs): the forced cells as the released guide's own fill.sh prints them over the translation 80639eaad8e49c68… (all of the seat's roots in one cut). By AI agents, Wed Nov 11 2026. No macro, syntax, notation, axiom, sorry.
-/
import Derived.Test.YbulkatrgChecked
import GoSem.Claim
import GoSem.ClaimJoined
import GoSem.ClaimMapViews
import Derived.JoinedTies
import Derived.KernelRfl
namespace Go.Proofs.Ybulkatrg
/- THE CELL 'sum', in the pinned program and in every row, IS THE sha256 OF THE DUMP (.gsa) THAT YbulkatrgProg.lean LOADS. Nothing in Lean hashes anything: it is a label: what it is worth is what the hold of that sum in a sandbox is worth. -/
noncomputable def Yba.pinned : Pinned := { name := "ybulkatrg", sum := "80639eaad8e49c6870f891f5a679a800f8502745d1ad90260878b4f408f5fca4", checked := Yba.checked }
namespace Rows
def none {H : Type} : Left H := { results := [], args := [] }

/-- 'msgfmt.LawS2255AModel': WHATEVER THE INPUT: true; the input reads as it did. -/
def lawS2255AModelSpec : ChangeSpec := { name := "lawS2255AModel", fn := fun _ => fun
  | [d1, d2, d3, d4, d5, d6, d7, d8] => { results := [.lit (.bool true)], args := [d1, d2, d3, d4, d5, d6, d7, d8] }
  | _ => none }
def lawS2255AModelRow : OpenClaim := { program := "ybulkatrg", sum := "80639eaad8e49c6870f891f5a679a800f8502745d1ad90260878b4f408f5fca4", func := "example.com/catforge/catforge/internal/msgfmt.LawS2255AModel", spec := "lawS2255AModel", inPlace := ["internal/bytealg.IndexByte", "internal/bytealg.Compare"], named := ["encoding/binary.LittleEndian"], apart := false }
def LawS2255AModelSaid : Prop := lawS2255AModelRow.holds Yba.pinned (OpenSpec.ofChange lawS2255AModelSpec)

/-- ITS FALSE NEIGHBOUR: 'it returns false'. Refute it at one input. -/
def lawS2255AModelWrong : ChangeSpec := { name := "lawS2255AModel", fn := fun _ => fun
  | [d1, d2, d3, d4, d5, d6, d7, d8] => { results := [.lit (.bool false)], args := [d1, d2, d3, d4, d5, d6, d7, d8] }
  | _ => none }
def LawS2255AModelWrongFalsely : Prop := lawS2255AModelRow.holds Yba.pinned (OpenSpec.ofChange lawS2255AModelWrong)

/-- 'msgfmt.LawS2255AStrict': WHATEVER THE INPUT: true; the input reads as it did. -/
def lawS2255AStrictSpec : ChangeSpec := { name := "lawS2255AStrict", fn := fun _ => fun
  | [d1, d2, d3, d4, d5, d6, d7, d8] => { results := [.lit (.bool true)], args := [d1, d2, d3, d4, d5, d6, d7, d8] }
  | _ => none }
def lawS2255AStrictRow : OpenClaim := { program := "ybulkatrg", sum := "80639eaad8e49c6870f891f5a679a800f8502745d1ad90260878b4f408f5fca4", func := "example.com/catforge/catforge/internal/msgfmt.LawS2255AStrict", spec := "lawS2255AStrict", inPlace := ["internal/bytealg.IndexByte", "internal/bytealg.Compare"], named := ["encoding/binary.LittleEndian"], apart := false }
def LawS2255AStrictSaid : Prop := lawS2255AStrictRow.holds Yba.pinned (OpenSpec.ofChange lawS2255AStrictSpec)

/-- ITS FALSE NEIGHBOUR: 'it returns false'. Refute it at one input. -/
def lawS2255AStrictWrong : ChangeSpec := { name := "lawS2255AStrict", fn := fun _ => fun
  | [d1, d2, d3, d4, d5, d6, d7, d8] => { results := [.lit (.bool false)], args := [d1, d2, d3, d4, d5, d6, d7, d8] }
  | _ => none }
def LawS2255AStrictWrongFalsely : Prop := lawS2255AStrictRow.holds Yba.pinned (OpenSpec.ofChange lawS2255AStrictWrong)

/-- 'msgfmt.LawS2255BPlain': WHATEVER THE INPUT: true; the input reads as it did. -/
def lawS2255BPlainSpec : ChangeSpec := { name := "lawS2255BPlain", fn := fun _ => fun
  | [d1, d2] => { results := [.lit (.bool true)], args := [d1, d2] }
  | _ => none }
def lawS2255BPlainRow : OpenClaim := { program := "ybulkatrg", sum := "80639eaad8e49c6870f891f5a679a800f8502745d1ad90260878b4f408f5fca4", func := "example.com/catforge/catforge/internal/msgfmt.LawS2255BPlain", spec := "lawS2255BPlain", named := ["encoding/binary.LittleEndian"], apart := false }
def LawS2255BPlainSaid : Prop := lawS2255BPlainRow.holds Yba.pinned (OpenSpec.ofChange lawS2255BPlainSpec)

/-- ITS FALSE NEIGHBOUR: 'it returns false'. Refute it at one input. -/
def lawS2255BPlainWrong : ChangeSpec := { name := "lawS2255BPlain", fn := fun _ => fun
  | [d1, d2] => { results := [.lit (.bool false)], args := [d1, d2] }
  | _ => none }
def LawS2255BPlainWrongFalsely : Prop := lawS2255BPlainRow.holds Yba.pinned (OpenSpec.ofChange lawS2255BPlainWrong)

/-- 'msgfmt.LawS2255BCut': WHATEVER THE INPUT: true; the input reads as it did. -/
def lawS2255BCutSpec : ChangeSpec := { name := "lawS2255BCut", fn := fun _ => fun
  | [d1, d2, d3, d4] => { results := [.lit (.bool true)], args := [d1, d2, d3, d4] }
  | _ => none }
def lawS2255BCutRow : OpenClaim := { program := "ybulkatrg", sum := "80639eaad8e49c6870f891f5a679a800f8502745d1ad90260878b4f408f5fca4", func := "example.com/catforge/catforge/internal/msgfmt.LawS2255BCut", spec := "lawS2255BCut", named := ["encoding/binary.LittleEndian"], apart := false }
def LawS2255BCutSaid : Prop := lawS2255BCutRow.holds Yba.pinned (OpenSpec.ofChange lawS2255BCutSpec)

/-- ITS FALSE NEIGHBOUR: 'it returns false'. Refute it at one input. -/
def lawS2255BCutWrong : ChangeSpec := { name := "lawS2255BCut", fn := fun _ => fun
  | [d1, d2, d3, d4] => { results := [.lit (.bool false)], args := [d1, d2, d3, d4] }
  | _ => none }
def LawS2255BCutWrongFalsely : Prop := lawS2255BCutRow.holds Yba.pinned (OpenSpec.ofChange lawS2255BCutWrong)

end Rows
end Go.Proofs.Ybulkatrg
