import Derived.Test.YbulkatumHome
namespace Go.Proofs.Ybulkatum.Ap
open Go.RowKit
set_option linter.unusedVariables false

theorem at_row (w : World) (n i r : Nat) (hi : i < 8) (hr : r = i + 1) (h44 : w.cell? ⟨n + 2, 44, none⟩ = some (.slice (some ⟨n + 4, 0, none⟩) 1 1)) (h4 : w.cell? ⟨n + 4, 0, none⟩ = some (.pointer (some ⟨n + 3, 0, none⟩))) :
    Calls Yba.prog 8 #[.pointer (some ⟨n + 2, 44, none⟩), .int .u32 (r : Int)] w fun e w' => e = .returned (.pointer (some ⟨n + 3, i * 48, none⟩)) ∧ w' = w := by
  have e1 : (r : Int) - 1 = (i : Int) := by omega
  have e2 : (i : Int) / 1024 = 0 := by omega
  have e3 : (i : Int) % 1024 = (i : Int) := by omega
  have e4 : Int.tdiv (i : Int) 1024 = 0 := by rw [Int.tdiv_eq_ediv_of_nonneg (by omega)]; omega
  have e5 : Int.tmod (i : Int) 1024 = (i : Int) := by rw [Int.tmod_eq_emod_of_nonneg (by omega)]; omega
  have e6 : (i : Int) < 1024 := by omega
  have e7 : (0 : Int) ≤ (i : Int) := by omega
  have e8 : IntKind.i64.wrap (r : Int) = (r : Int) := by simp only [IntKind.wrap_i64]; omega
  have e9 : IntKind.i64.wrap (i : Int) = (i : Int) := by simp only [IntKind.wrap_i64]; omega
  clear hr
  go_enter Yba.func8, Yba.ntmps8
  go_wp2
  go_ret
  exact ⟨rfl, rfl⟩

end Go.Proofs.Ybulkatum.Ap
