import Derived.Test.YbulkatumCopy
namespace Go.Proofs.Ybulkatum.Ap
open Go.RowKit
set_option linter.unusedVariables false

theorem zero122_list : Yba.zeroCells122.toList.length = 65 := by kernel_rfl
/-- A record with its 'tx' laid in, as the walk builds it. -/
noncomputable def recOf (cs : List Value) : Array Value := List.foldl (fun A x => A.setIfInBounds (17 + x.snd) x.fst) Yba.zeroCells122 cs.zipIdx
theorem recOf_eq (f : Nat → UInt8) : recOf (idList f) = (Yba.zeroCells122.toList.take 17 ++ (idList f ++ Yba.zeroCells122.toList.drop 33)).toArray := by kernel_rfl
theorem build122 (f : Nat → UInt8) : (recOf (idList f)).size = 65 ∧ (∀ j, j < 16 → (recOf (idList f))[17 + j]? = some (.int .u8 ((f j).toNat : Int))) := by
  rw [recOf_eq]
  refine ⟨?_, fun j hj => ?_⟩
  · simp [idList_length]
  · have e1 : (Yba.zeroCells122.toList.take 17).length = 17 := by rw [List.length_take, zero122_list]; rfl
    simp only [List.getElem?_toArray]
    rw [List.getElem?_append_right (by rw [e1]; omega), e1, Nat.add_sub_cancel_left, List.getElem?_append_left (by rw [idList_length]; exact hj)]
    exact idList_get f j hj

end Go.Proofs.Ybulkatum.Ap
