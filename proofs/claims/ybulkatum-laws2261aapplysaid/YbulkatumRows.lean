/-
  No cell of these rows narrows 'for every input' (looked for: loops, veiled, ifaces, maps, wideKeys, modest, calm, conditions, laid).
  DERIVED. THE GIVEN ROWS OF THIS SEAT. 1 by the template 'for every input the law returns true; each argument reads behind the call as it read before'; 0 by the template 'total and deterministic' (their statements: YbulkatumTotals.lean).
  GIVEN WITH THE SEED: the statements are not yours to turn. If you find one false, say at which input.
  Laid BY PROGRAM, IN A SANDBOX (cutbox-rows.mjs): the forced cells as the released guide's own fill.sh prints them over the translation c394d22842bcc1df… (all of the seat's roots in one cut). By AI agents, Wed Nov 11 2026. No macro, syntax, notation, axiom, sorry.
-/
import Derived.Test.YbulkatumChecked
import GoSem.Claim
import GoSem.ClaimJoined
import GoSem.ClaimMapViews
import Derived.JoinedTies
import Derived.KernelRfl
namespace Go.Proofs.Ybulkatum
/- THE CELL 'sum', in the pinned program and in every row, IS THE sha256 OF THE DUMP (.gsa) THAT YbulkatumProg.lean LOADS. Nothing in Lean hashes anything: it is a label: what it is worth is what the hold of that sum in a sandbox is worth. -/
noncomputable def Yba.pinned : Pinned := { name := "ybulkatum", sum := "c394d22842bcc1df54fce1a4a49d4b90919c7bf51280cfda3304c8fc99372943", checked := Yba.checked }
namespace Rows
def none {H : Type} : Left H := { results := [], args := [] }

/-- 'broker.LawS2261AApply': WHATEVER THE INPUT: true; the input reads as it did. -/
def lawS2261AApplySpec : ChangeSpec := { name := "lawS2261AApply", fn := fun _ => fun
  | [d] => { results := [.lit (.bool true)], args := [d] }
  | _ => none }
def lawS2261AApplyRow : OpenClaim := { program := "ybulkatum", sum := "c394d22842bcc1df54fce1a4a49d4b90919c7bf51280cfda3304c8fc99372943", func := "example.com/halfway/halfway/broker.LawS2261AApply", spec := "lawS2261AApply", unfollowed := true, recurses := true, named := ["encoding/binary.LittleEndian"], plainKeys := false, apart := false }
def LawS2261AApplySaid : Prop := lawS2261AApplyRow.holds Yba.pinned (OpenSpec.ofChange lawS2261AApplySpec)

/-- ITS FALSE NEIGHBOUR: 'it returns false'. Refute it at one input. -/
def lawS2261AApplyWrong : ChangeSpec := { name := "lawS2261AApply", fn := fun _ => fun
  | [d] => { results := [.lit (.bool false)], args := [d] }
  | _ => none }
def LawS2261AApplyWrongFalsely : Prop := lawS2261AApplyRow.holds Yba.pinned (OpenSpec.ofChange lawS2261AApplyWrong)

end Rows
end Go.Proofs.Ybulkatum
