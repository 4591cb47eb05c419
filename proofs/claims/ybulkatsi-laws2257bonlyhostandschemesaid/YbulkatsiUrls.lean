import Derived.Test.YbulkatsiWalks
import Derived.Deep.QuietTactic
import Derived.BigQuiet
import Derived.Deep.RegionHeld3
import Derived.Deep.DrawnRows
namespace Go.Proofs.Ybulkatsi.Ur
open Go.RowKit
set_option linter.unusedVariables false

/-- The scheme. -/
def sch (b : Bool) : ByteArray := cond b ⟨#[104, 116, 116, 112]⟩ ⟨#[104, 116, 116, 112, 115]⟩
theorem sch_size (b : Bool) : (sch b).size ≤ 5 := by cases b <;> decide
/-- The base's URL. -/
def base (b : Bool) (host : ByteArray) : ByteArray := sch b ++ ⟨#[58, 47, 47]⟩ ++ host
theorem base_size (b : Bool) (host : ByteArray) : (base b host).size ≤ 8 + host.size := by
  have := sch_size b
  have e : (⟨#[58, 47, 47]⟩ : ByteArray).size = 3 := rfl
  simp only [base, ByteArray.size_append, e]
  omega

set_option maxHeartbeats 400000 in
theorem base_any (g : Nat) (b : Bool) (host : ByteArray) (W : World) (h : host.size ≤ 140737488351232) (c0 : W.cell? ⟨g, 0, none⟩ = some (.string host)) (c2 : W.cell? ⟨g, 2, none⟩ = some (.bool b)) :
    Calls Yba.prog 5 #[.pointer (some ⟨g, 0, none⟩)] W fun e w' => e = .returned (.string (base b host)) ∧ w' = W := by
  cases b
  · go_enter Yba.func5, Yba.ntmps5
    go_wp2
    go_ret
    exact ⟨rfl, rfl⟩
  · go_enter Yba.func5, Yba.ntmps5
    go_wp2
    go_ret
    exact ⟨rfl, rfl⟩

set_option maxHeartbeats 400000 in
theorem sch_any (b : Bool) (W : World) : Calls Yba.prog 6 #[.bool b] W fun e w' => e = .returned (.string (sch b)) ∧ w' = W := by
  cases b
  · go_enter Yba.func6, Yba.ntmps6
    go_wp2
    go_ret
    exact ⟨rfl, rfl⟩
  · go_enter Yba.func6, Yba.ntmps6
    go_wp2
    go_ret
    exact ⟨rfl, rfl⟩

/-- The repository's URL. -/
def repoUrl (b : Bool) (host repo path : ByteArray) : ByteArray := base b host ++ ⟨#[47, 118, 50, 47]⟩ ++ repo ++ ⟨#[47]⟩ ++ path

attribute [local go_sem ↓] Go.wp_at_zero Go.wp_at_succ

set_option maxHeartbeats 400000 in
theorem repo_any (g : Nat) (b : Bool) (host repo path : ByteArray) (W : World) (h : host.size ≤ 140737488351232) (h1 : repo.size ≤ 140737488351232) (h2 : path.size ≤ 140737488351232)
    (c0 : W.cell? ⟨g, 0, none⟩ = some (.string host)) (c1 : W.cell? ⟨g, 1, none⟩ = some (.string repo)) (c2 : W.cell? ⟨g, 2, none⟩ = some (.bool b)) :
    Calls Yba.prog 7 #[.pointer (some ⟨g, 0, none⟩), .string path] W fun e w' => e = .returned (.string (repoUrl b host repo path)) ∧ ∃ n, w' = W.drewN n := by
  have hs := base_size b host
  have hB : Hid (∀ w, w.cell? ⟨g, 0, none⟩ = some (.string host) → w.cell? ⟨g, 2, none⟩ = some (.bool b) → Calls Yba.prog 5 #[.pointer (some ⟨g, 0, none⟩)] w fun e w' => e = .returned (.string (base b host)) ∧ w' = w) := fun w k0 k2 => base_any g b host w h k0 k2
  unfold repoUrl
  generalize base b host = bs at *
  go_enter Yba.func7, Yba.ntmps7
  go_wp2
  go_quiet ((go_at_call 5; exact Calls.quiet_of_same (hB.out _ (by simpa using c0) (by simpa using c2))))
  go_wp2
  go_ret
  exact ⟨rfl, _, rfl⟩
end Go.Proofs.Ybulkatsi.Ur
