import Derived.Test.YbulkatumBx
namespace Go.Proofs.Ybulkatum.Ap
open Go.RowKit
set_option linter.unusedVariables false

/-- The world ahead of the loop. -/
noncomputable def startW (w : World) (inp BB : Array Value) (k : Nat) : World :=
  ((((((w.alloc (.cells inp 25)).alloc (.cells #[.string ⟨#[112]⟩, .slice none 0 0, .int .u32 0, .int .u32 0, .int .u32 0, .int .u32 0] 130)).alloc
    (.cells (((BB.setIfInBounds 44 (.slice (some ⟨w.heap.size + 4, 0, none⟩) 1 1)).setIfInBounds 45 (.int .u32 (k : Int))).setIfInBounds 47 (.slice (some ⟨w.heap.size + 5, 0, none⟩) 16 16)) 108)).alloc
    (.cells Yba.zeroCells133 133)).alloc (.cells #[.pointer (some ⟨w.heap.size + 3, 0, none⟩)] 30)).alloc (.cells (madeCells #[.int .u32 0] 16) 32)).alloc (.cells (madeCells zero16 (k * 16)) 113)

theorem push7 {α : Type} (a : Array α) (x0 x1 x2 x3 x4 x5 x6 : α) : ∀ (j : Nat) (hj : j < 7) (h1 : 1 ≤ j), (((((((a.push x0).push x1).push x2).push x3).push x4).push x5).push x6)[a.size + j]? = some (match j with | 0 => x0 | 1 => x1 | 2 => x2 | 3 => x3 | 4 => x4 | 5 => x5 | _ => x6)
  | 0, _, h => absurd h (by omega)
  | 1, _, _ => by simp only [Array.getElem?_push, Array.size_push]; simp
  | 2, _, _ => by simp only [Array.getElem?_push, Array.size_push]; simp
  | 3, _, _ => by simp only [Array.getElem?_push, Array.size_push]; simp
  | 4, _, _ => by simp only [Array.getElem?_push, Array.size_push]; simp
  | 5, _, _ => by simp only [Array.getElem?_push, Array.size_push]; simp
  | 6, _, _ => by simp only [Array.getElem?_push, Array.size_push]; simp
  | j + 7, h, _ => absurd h (by omega)

theorem start_bx (w : World) (inp BB : Array Value) (k : Nat) (I : Nat → Nat → UInt8) (b1 : BB.size = 78) (b2 : BB[48]? = some (.int .i64 0)) (b3 : BB[52]? = some (.slice (some ⟨w.heap.size + 1, 0, none⟩) 1 1)) :
    Bx (w.alloc (.cells inp 25)) (startW w inp BB k) w.heap.size k 0 I (fun _ => Row.zero) (fun _ => 0) 0 0 := by
  have hh : (startW w inp BB k).heap = ((((((w.heap.push (.cells inp 25)).push (.cells #[.string ⟨#[112]⟩, .slice none 0 0, .int .u32 0, .int .u32 0, .int .u32 0, .int .u32 0] 130)).push
    (.cells (((BB.setIfInBounds 44 (.slice (some ⟨w.heap.size + 4, 0, none⟩) 1 1)).setIfInBounds 45 (.int .u32 (k : Int))).setIfInBounds 47 (.slice (some ⟨w.heap.size + 5, 0, none⟩) 16 16)) 108)).push
    (.cells Yba.zeroCells133 133)).push (.cells #[.pointer (some ⟨w.heap.size + 3, 0, none⟩)] 30)).push (.cells (madeCells #[.int .u32 0] 16) 32)).push (.cells (madeCells zero16 (k * 16)) 113) := rfl
  have e1 : (startW w inp BB k).heap[w.heap.size + 1]? = some (.cells #[.string ⟨#[112]⟩, .slice none 0 0, .int .u32 0, .int .u32 0, .int .u32 0, .int .u32 0] 130 (0, 0)) := by rw [hh]; exact push7 _ _ _ _ _ _ _ _ 1 (by omega) (by omega)
  have e2 : (startW w inp BB k).heap[w.heap.size + 2]? = some (.cells (((BB.setIfInBounds 44 (.slice (some ⟨w.heap.size + 4, 0, none⟩) 1 1)).setIfInBounds 45 (.int .u32 (k : Int))).setIfInBounds 47 (.slice (some ⟨w.heap.size + 5, 0, none⟩) 16 16)) 108 (0, 0)) := by rw [hh]; exact push7 _ _ _ _ _ _ _ _ 2 (by omega) (by omega)
  have e3 : (startW w inp BB k).heap[w.heap.size + 3]? = some (.cells Yba.zeroCells133 133 (0, 0)) := by rw [hh]; exact push7 _ _ _ _ _ _ _ _ 3 (by omega) (by omega)
  have e4 : (startW w inp BB k).heap[w.heap.size + 4]? = some (.cells #[.pointer (some ⟨w.heap.size + 3, 0, none⟩)] 30 (0, 0)) := by rw [hh]; exact push7 _ _ _ _ _ _ _ _ 4 (by omega) (by omega)
  have e5 : (startW w inp BB k).heap[w.heap.size + 5]? = some (.cells (madeCells #[.int .u32 0] 16) 32 (0, 0)) := by rw [hh]; exact push7 _ _ _ _ _ _ _ _ 5 (by omega) (by omega)
  have e6 : (startW w inp BB k).heap[w.heap.size + 6]? = some (.cells (madeCells zero16 (k * 16)) 113 (0, 0)) := by rw [hh]; exact push7 _ _ _ _ _ _ _ _ 6 (by omega) (by omega)
  refine ⟨⟨fun i hi c hc => Cell.of_heap e3 (zero133_get i c hi hc), fun j hj => Cell.of_heap e5 ?_, Cell.of_heap e1 rfl, Cell.of_heap e1 rfl, Cell.of_heap e2 ?_, Cell.of_heap e2 ?_, ⟨0, Cell.of_heap e2 ?_⟩, Cell.of_heap e2 ?_, Cell.of_heap e4 rfl⟩, fun i hi => absurd hi (Nat.not_lt_zero _), fun j hj c hc => ⟨_, Cell.of_heap e6 (made_get _ _ _ ?_)⟩, ?_, ?_⟩
  · rw [made_get _ _ _ hj]
    simp [Nat.mod_one]
  · simp [b1]
  · simp [b1]
  · simp [b2]
  · simp [b3]
  · omega
  · have : ∀ (a : World) (h : w.heap.size + 1 ≤ a.heap.size), Below (w.heap.size + 1) (w.alloc (.cells inp 25)) a → ∀ o, Below (w.heap.size + 1) (w.alloc (.cells inp 25)) (a.alloc o) := fun a h hb o => hb.alloc h o
    unfold startW
    refine this _ (by simp <;> omega) (this _ (by simp <;> omega) (this _ (by simp <;> omega) (this _ (by simp <;> omega) (this _ (by simp <;> omega) (this _ (by simp) (Below.refl _ _) _) _) _) _) _) _
  · simp [startW]

end Go.Proofs.Ybulkatum.Ap
