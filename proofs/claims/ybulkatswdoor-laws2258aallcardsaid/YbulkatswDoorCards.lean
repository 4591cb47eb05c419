/-
  DERIVED. GIVEN WITH THE SEED: THE CARDS: each row of YbulkatswDoorRows.lean that lists a variable, with what it lists TIED to the program's text (the seventh form; the later family's looks); each row that meets fmt, with fmt's text TOLD by the authors' own Lean function (tested against real Go, not proved from fmt's source: count such statements apart). THE CARD IS WHAT COUNTS. Prove the row's statement (the work); the ties are given (YbulkatswDoorTie.lean); close each card by the builder's one call (the guide's Derived/Test/ToyasCard.lean, 'card_holds'). Laid BY PROGRAM, IN A SANDBOX (cutbox-door.mjs). By AI agents, Wed Nov 11 2026. No macro, syntax, notation, axiom, sorry.
-/
import Derived.Test.YbulkatswDoorRows
import GoSem.ClaimSeven
namespace Go.Proofs.YbulkatswDoor
namespace Rows

/-- THE TIED CARD OF 'replay.LawS2258AAll'. -/
def lawS2258AAllCard : Claim7 := { stood := { row := lawS2258AAllRow, standIns := [], harness := (true, "d57998aabe1ddbd4fcc12705bd840ee130b36d22dbe772e192ad9c852b097dfb"), looks := true }, kinds := [], alts := [], laidByText := true, laidKinds := [.sentinel], laidTests := true, laidLooks := .later }
def LawS2258AAllCardSaid : Prop := Claim7.holds Ybad.pinned (.plain (OpenSpec.ofChange lawS2258AAllSpec)) lawS2258AAllCard

/-- THE TIED CARD OF 'replay.LawS2258AFails'. -/
def lawS2258AFailsCard : Claim7 := { stood := { row := lawS2258AFailsRow, standIns := [], harness := (true, "d57998aabe1ddbd4fcc12705bd840ee130b36d22dbe772e192ad9c852b097dfb"), looks := true }, kinds := [], alts := [], laidByText := true, laidKinds := [.sentinel], laidTests := true, laidLooks := .later }
def LawS2258AFailsCardSaid : Prop := Claim7.holds Ybad.pinned (.plain (OpenSpec.ofChange lawS2258AFailsSpec)) lawS2258AFailsCard
end Rows
end Go.Proofs.YbulkatswDoor
