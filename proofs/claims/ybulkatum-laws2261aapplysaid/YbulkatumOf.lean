import Derived.Test.YbulkatumAt
namespace Go.Proofs.Ybulkatum.Ap
open Go.RowKit
set_option linter.unusedVariables false

theorem info113 : (Yba.prog.info? 113).map (·.size) = some 16 := by kernel_rfl

/-- An ID's sixteen cells. -/
def idArr (f : Nat → UInt8) : Array Value := #[.int .u8 ((f 0).toNat : Int), .int .u8 ((f 1).toNat : Int), .int .u8 ((f 2).toNat : Int), .int .u8 ((f 3).toNat : Int), .int .u8 ((f 4).toNat : Int), .int .u8 ((f 5).toNat : Int), .int .u8 ((f 6).toNat : Int), .int .u8 ((f 7).toNat : Int), .int .u8 ((f 8).toNat : Int), .int .u8 ((f 9).toNat : Int), .int .u8 ((f 10).toNat : Int), .int .u8 ((f 11).toNat : Int), .int .u8 ((f 12).toNat : Int), .int .u8 ((f 13).toNat : Int), .int .u8 ((f 14).toNat : Int), .int .u8 ((f 15).toNat : Int)]
theorem idArr_eq (f : Nat → UInt8) : (idList f).toArray = idArr f := rfl
theorem idArr_size (f : Nat → UInt8) : (idArr f).size = 16 := rfl

theorem of_row (w : World) (b o : Nat) (f : Nat → UInt8) (hr : ∀ j, j < 16 → w.cell? ⟨b, o + j, none⟩ = some (.int .u8 ((f j).toNat : Int))) :
    Calls Yba.prog 52 #[.agg #[], .pointer (some ⟨b, o, none⟩)] w fun e w' => e = .returned (.agg (idArr f)) ∧ Below w.heap.size w w' := by
  obtain ⟨x, hx⟩ : ∃ x : Nat → Int, x = fun j => ((f j).toNat : Int) := ⟨_, rfl⟩
  have hr' : ∀ j, j < 16 → w.cell? ⟨b, o + j, none⟩ = some (.int .u8 (x j)) := fun j hj => by rw [hx]; exact hr j hj
  have ha : idArr f = #[.int .u8 (x 0), .int .u8 (x 1), .int .u8 (x 2), .int .u8 (x 3), .int .u8 (x 4), .int .u8 (x 5), .int .u8 (x 6), .int .u8 (x 7), .int .u8 (x 8), .int .u8 (x 9), .int .u8 (x 10), .int .u8 (x 11), .int .u8 (x 12), .int .u8 (x 13), .int .u8 (x 14), .int .u8 (x 15)] := by rw [hx]; rfl
  rw [ha]
  clear hr ha hx
  have c0 := hr' 0 (by omega)
  rw [Nat.add_zero] at c0
  have c1 := hr' 1 (by omega)
  have c2 := hr' 2 (by omega)
  have c3 := hr' 3 (by omega)
  have c4 := hr' 4 (by omega)
  have c5 := hr' 5 (by omega)
  have c6 := hr' 6 (by omega)
  have c7 := hr' 7 (by omega)
  have c8 := hr' 8 (by omega)
  have c9 := hr' 9 (by omega)
  have c10 := hr' 10 (by omega)
  have c11 := hr' 11 (by omega)
  have c12 := hr' 12 (by omega)
  have c13 := hr' 13 (by omega)
  have c14 := hr' 14 (by omega)
  have c15 := hr' 15 (by omega)
  have hb : b < w.heap.size := World.block_lt_of_cell? w _ c0
  clear hr'
  go_enter Yba.func52, Yba.ntmps52
  go_wp2
  refine bodyPost_ret (results_cell_row rfl _ _ (w.heap.size + 1) 113 _ (0, 0) _ rfl (heap_alloc2_new _ _ _) Yba.underlying113 rfl (by rw [info113]; rfl)) rfl ?_
  exact ⟨rfl, ((Below.refl _ _).alloc (Nat.le_refl _) _).alloc (by simp) _⟩

theorem method_of (w : World) : (method 403 140 (.agg #[]) "example.com/halfway/halfway/broker.of").run Yba.prog w = .ok (52, .agg #[]) w := by kernel_rfl

end Go.Proofs.Ybulkatum.Ap
