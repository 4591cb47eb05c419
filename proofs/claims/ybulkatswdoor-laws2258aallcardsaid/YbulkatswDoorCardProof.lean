import Derived.Test.YbulkatswDoorProof
import Derived.Test.YbulkatswDoorTie
import Derived.Test.YbulkatswDoorCards
import Derived.SevenTiedAt
namespace Go.Proofs.YbulkatswDoor.lawS2258AAll
open Go

/-- THE TIED CARD. -/
theorem proved : Rows.LawS2258AAllCardSaid :=
  Claim7.holds_tied_plain_at .later [] [.sentinel] true Rows.lawS2258AAllCard.stood.harness true
    row_holds (fun _ h => by cases h) (by kernel_rfl) (fun _ h => by cases h) lawS2258AAll_row_tie rfl ⟨rfl, rfl⟩ (by kernel_rfl) rfl
    (fun f fn hf hfn => by
      obtain rfl : f = 3 := Option.some.inj ((show Ybad.prog.funcNamed Rows.lawS2258AAllRow.func = some 3 by kernel_rfl).symm.trans hf) |>.symm
      obtain rfl : fn = Ybad.f3 := (Option.some.inj (Ybad.func3.symm.trans hfn)).symm
      exact ⟨by kernel_rfl, fun j t ht => by
        rw [Ybad.params3] at ht
        have hm : t ∈ [22, 23] := by simpa using Array.mem_of_getElem? ht
        have hall : ([22, 23].all fun u => !Ybad.prog.wantsStandIn u) = true := by kernel_rfl
        exact (show Ybad.prog.wantsStandIn t = false by simpa using List.all_eq_true.1 hall t hm)⟩)
    (by kernel_rfl)
#print axioms proved
end Go.Proofs.YbulkatswDoor.lawS2258AAll
