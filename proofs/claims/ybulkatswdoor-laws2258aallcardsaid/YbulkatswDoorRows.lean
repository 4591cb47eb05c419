/-
  NARROWER THAN 'FOR EVERY INPUT', by the rows' own cells (each row's printed sentence says how): LawS2258AAll: laid · LawS2258AFails: laid.
  DERIVED. THE GIVEN ROWS OF THIS SEAT. 2 by the template 'for every input the law returns true; each argument reads behind the call as it read before'; 0 by the template 'total and deterministic' (their statements: YbulkatswDoorTotals.lean).
  GIVEN WITH THE SEED: the statements are not yours to turn. If you find one false, say at which input.
  Laid BY PROGRAM, IN A SANDBOX (cutbox-rows.mjs): the forced cells as the released guide's own fill.sh prints them over the translation 6dfd82d14e89e5e1… (all of the seat's roots in one cut). By AI agents, Wed Nov 11 2026. No macro, syntax, notation, axiom, sorry.
-/
import Derived.Test.YbulkatswDoorChecked
import GoSem.Claim
import GoSem.ClaimJoined
import GoSem.ClaimMapViews
import Derived.JoinedTies
import Derived.KernelRfl
namespace Go.Proofs.YbulkatswDoor
/- THE CELL 'sum', in the pinned program and in every row, IS THE sha256 OF THE DUMP (.gsa) THAT YbulkatswDoorProg.lean LOADS. Nothing in Lean hashes anything: it is a label: what it is worth is what the hold of that sum in a sandbox is worth. -/
noncomputable def Ybad.pinned : Pinned := { name := "ybulkatswdoor", sum := "6dfd82d14e89e5e126bc5ae897056733d273be93185af8b574caba91163789a0", checked := Ybad.checked }
namespace Rows
def none {H : Type} : Left H := { results := [], args := [] }

/- WHAT THE LISTED PACKAGE-LEVEL VARIABLES READ AS WHEN THE CALL BEGINS. Each datum BY PROGRAM (the guide's laid-datum.mjs) off the statement by which the dump's own 'gosem.cut.vars' lays the variable. In a bare row this is a premise. The card (YbulkatswDoorCards.lean) ties it to the program's text. -/
def laid_io_ErrShortWrite {H : Type} : DataW H := .iface "*errors.errorString" (.ptr (.agg [.lit (.string [115, 104, 111, 114, 116, 32, 119, 114, 105, 116, 101])]))

/-- 'replay.LawS2258AAll': WHATEVER THE INPUT: true; the input reads as it did. -/
def lawS2258AAllSpec : ChangeSpec := { name := "lawS2258AAll", fn := fun _ => fun
  | [d1, d2] => { results := [.lit (.bool true)], args := [d1, d2] }
  | _ => none }
def lawS2258AAllRow : OpenClaim := { program := "ybulkatswdoor", sum := "6dfd82d14e89e5e126bc5ae897056733d273be93185af8b574caba91163789a0", func := "example.com/knotwise/knotwise/internal/replay.LawS2258AAll", spec := "lawS2258AAll", unfollowed := true, recurses := true, named := ["io.ErrShortWrite"], apart := false, laid := [("io.ErrShortWrite", laid_io_ErrShortWrite)] }
def LawS2258AAllSaid : Prop := lawS2258AAllRow.holds Ybad.pinned (OpenSpec.ofChange lawS2258AAllSpec)

/-- ITS FALSE NEIGHBOUR: 'it returns false'. Refute it at one input. -/
def lawS2258AAllWrong : ChangeSpec := { name := "lawS2258AAll", fn := fun _ => fun
  | [d1, d2] => { results := [.lit (.bool false)], args := [d1, d2] }
  | _ => none }
def LawS2258AAllWrongFalsely : Prop := lawS2258AAllRow.holds Ybad.pinned (OpenSpec.ofChange lawS2258AAllWrong)

/-- 'replay.LawS2258AFails': WHATEVER THE INPUT: true; the input reads as it did. -/
def lawS2258AFailsSpec : ChangeSpec := { name := "lawS2258AFails", fn := fun _ => fun
  | [d1, d2, d3] => { results := [.lit (.bool true)], args := [d1, d2, d3] }
  | _ => none }
def lawS2258AFailsRow : OpenClaim := { program := "ybulkatswdoor", sum := "6dfd82d14e89e5e126bc5ae897056733d273be93185af8b574caba91163789a0", func := "example.com/knotwise/knotwise/internal/replay.LawS2258AFails", spec := "lawS2258AFails", unfollowed := true, recurses := true, named := ["io.ErrShortWrite"], apart := false, laid := [("io.ErrShortWrite", laid_io_ErrShortWrite)] }
def LawS2258AFailsSaid : Prop := lawS2258AFailsRow.holds Ybad.pinned (OpenSpec.ofChange lawS2258AFailsSpec)

/-- ITS FALSE NEIGHBOUR: 'it returns false'. Refute it at one input. -/
def lawS2258AFailsWrong : ChangeSpec := { name := "lawS2258AFails", fn := fun _ => fun
  | [d1, d2, d3] => { results := [.lit (.bool false)], args := [d1, d2, d3] }
  | _ => none }
def LawS2258AFailsWrongFalsely : Prop := lawS2258AFailsRow.holds Ybad.pinned (OpenSpec.ofChange lawS2258AFailsWrong)

end Rows
end Go.Proofs.YbulkatswDoor
