import Derived.Test.YbulkatsiUrls
namespace Go.Proofs.Ybulkatsi.Ur
open Go.RowKit
set_option linter.unusedVariables false

theorem grown_drewN {w w' : World} (h : Grown w w') (n : Nat) : Grown w (w'.drewN n) := h

theorem repo_any' (g : Nat) (b : Bool) (host repo path sc : ByteArray) (hsc : Hid (sc = sch b)) (W : World) (h : host.size ≤ 140737488351232) (h1 : repo.size ≤ 140737488351232) (h2 : path.size ≤ 140737488351232)
    (c0 : W.cell? ⟨g, 0, none⟩ = some (.string host)) (c1 : W.cell? ⟨g, 1, none⟩ = some (.string repo)) (c2 : W.cell? ⟨g, 2, none⟩ = some (.bool b)) :
    Calls Yba.prog 7 #[.pointer (some ⟨g, 0, none⟩), .string path] W fun e w' => e = .returned (.string (sc ++ ⟨#[58, 47, 47]⟩ ++ host ++ ⟨#[47, 118, 50, 47]⟩ ++ repo ++ ⟨#[47]⟩ ++ path)) ∧ ∃ n, w' = W.drewN n := by
  rw [hsc.out]
  exact repo_any g b host repo path W h h1 h2 c0 c1 c2

set_option maxHeartbeats 800000 in
theorem only_any (a0 a1 a2 a3 a4 a5 : ByteArray) (a6 : Bool) (z0 : a0.size ≤ 140737488351232) (z1 : a1.size ≤ 140737488351232) (z5 : a5.size ≤ 140737488351232) (w : World) :
    Calls Yba.prog 4 #[.string a0, .string a1, .string a2, .string a3, .string a4, .string a5, .bool a6] w fun e w' => e = .returned (.bool true) ∧ Grown w w' := by
  obtain ⟨sc, hsc⟩ : ∃ sc, sc = sch a6 := ⟨_, rfl⟩
  have hss : sc.size ≤ 5 := by rw [hsc]; exact sch_size a6
  have HS : Hid (sc = sch a6) := hsc
  obtain ⟨ba, hba⟩ : ∃ ba, ba = base a6 a0 := ⟨_, rfl⟩
  have HB : Hid (ba = base a6 a0) := hba
  clear hsc hba
  go_enter Yba.func4, Yba.ntmps4
  go_wp2_with fail
  refine (base_any _ a6 a0 _ z0 (by simp) (by simp)).mono ?_
  rintro e w1 ⟨rfl, rfl⟩
  rw [← HB.out]
  go_wp2_with fail
  refine (base_any _ a6 a0 _ z0 (by simp) (by simp)).mono ?_
  rintro e w1 ⟨rfl, rfl⟩
  rw [← HB.out]
  go_wp2_with fail
  refine (sch_any a6 _).mono ?_
  rintro e w1 ⟨rfl, rfl⟩
  rw [← HS.out]
  go_wp2_with fail
  refine (repo_any' _ a6 a0 a1 a5 sc HS _ z0 z1 z5 (by simp) (by simp) (by simp)).mono ?_
  rintro e w1 ⟨rfl, n, rfl⟩
  go_wp2
  go_ret
  exact ⟨rfl, grown_drewN (by repeat (first | exact Grown.refl _ | apply Grown.alloc)) n⟩
end Go.Proofs.Ybulkatsi.Ur
