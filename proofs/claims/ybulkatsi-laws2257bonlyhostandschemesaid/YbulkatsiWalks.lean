import Derived.Test.YbulkatsiProg
import Derived.WalkKit
import Derived.WalkSpells
import Derived.WalkLawsBesides
import Derived.RowKit3
import Derived.Lib.Strings
namespace Go.Proofs.Ybulkatsi.Ur
open Go.RowKit
set_option linter.unusedVariables false

theorem app_toList (a b : ByteArray) : (a ++ b).data.toList = a.data.toList ++ b.data.toList := by simp
theorem ex (p q : List UInt8) (s : ByteArray) (a b : Nat) : (((⟨p.toArray⟩ : ByteArray) ++ ⟨q.toArray⟩ ++ s).extract a b).toList = ((p ++ q ++ s.data.toList).drop a).take (b - a) := by
  rw [Lib.extract_toList, app_toList, app_toList]

set_option maxHeartbeats 800000 in
theorem exact_true (a0 : ByteArray) (h : a0.size ≤ 140737488351232) (w : World) :
    Calls Yba.prog 3 #[.string a0, .bool true] w fun e w' => e = .returned (.bool true) ∧ Grown w w' := by
  have e1 : (((⟨#[104, 116, 116, 112]⟩ : ByteArray) ++ ⟨#[58, 47, 47]⟩ ++ a0).extract 0 4).toList = [104, 116, 116, 112] := by
    rw [ex [104, 116, 116, 112] [58, 47, 47]]; rfl
  have e2 : (((⟨#[104, 116, 116, 112]⟩ : ByteArray) ++ ⟨#[58, 47, 47]⟩ ++ a0).extract 4 7).toList = [58, 47, 47] := by
    rw [ex [104, 116, 116, 112] [58, 47, 47]]; rfl
  have e3 : (((⟨#[104, 116, 116, 112]⟩ : ByteArray) ++ ⟨#[58, 47, 47]⟩ ++ a0).extract 7 (7 + a0.size)).toList = a0.toList := by
    rw [ex [104, 116, 116, 112] [58, 47, 47], Lib.toList_data, Nat.add_sub_cancel_left, Lib.size_eq]
    exact List.take_length
  go_enter Yba.func3, Yba.ntmps3
  go_wp2
  go_ret
  exact ⟨rfl, by repeat (first | exact Grown.refl _ | apply Grown.drew | apply Grown.alloc)⟩

set_option maxHeartbeats 800000 in
theorem exact_false (a0 : ByteArray) (h : a0.size ≤ 140737488351232) (w : World) :
    Calls Yba.prog 3 #[.string a0, .bool false] w fun e w' => e = .returned (.bool true) ∧ Grown w w' := by
  have e1 : (((⟨#[104, 116, 116, 112, 115]⟩ : ByteArray) ++ ⟨#[58, 47, 47]⟩ ++ a0).extract 0 5).toList = [104, 116, 116, 112, 115] := by
    rw [ex [104, 116, 116, 112, 115] [58, 47, 47]]; rfl
  have e2 : (((⟨#[104, 116, 116, 112, 115]⟩ : ByteArray) ++ ⟨#[58, 47, 47]⟩ ++ a0).extract 5 8).toList = [58, 47, 47] := by
    rw [ex [104, 116, 116, 112, 115] [58, 47, 47]]; rfl
  have e3 : (((⟨#[104, 116, 116, 112, 115]⟩ : ByteArray) ++ ⟨#[58, 47, 47]⟩ ++ a0).extract 8 (8 + a0.size)).toList = a0.toList := by
    rw [ex [104, 116, 116, 112, 115] [58, 47, 47], Lib.toList_data, Nat.add_sub_cancel_left, Lib.size_eq]
    exact List.take_length
  go_enter Yba.func3, Yba.ntmps3
  go_wp2
  go_ret
  exact ⟨rfl, by repeat (first | exact Grown.refl _ | apply Grown.drew | apply Grown.alloc)⟩

end Go.Proofs.Ybulkatsi.Ur
