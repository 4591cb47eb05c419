import Derived.Test.YbulkatumMem
import Derived.Test.YbulkatumShelf
import Derived.Deep.RegionHeld3
import Derived.Deep.DrawnRows
import Derived.Deep.DeepMust
import Derived.Deep.DeepFit
import Derived.Deep.QuietTactic
import Derived.BigQuiet
namespace Go.Proofs.Ybulkatum.Ap
open Go.RowKit
set_option linter.unusedVariables false

def le8 (f : Nat → UInt8) : Nat := Lib.leNat [f 0, f 1, f 2, f 3, f 4, f 5, f 6, f 7]
theorem leNat_lt : ∀ l : List UInt8, Lib.leNat l < 256 ^ l.length
  | [] => by simp [Lib.leNat]
  | x :: l => by
    have hx := x.toNat_lt
    have := leNat_lt l
    simp only [Lib.leNat, List.length_cons, Nat.pow_succ]
    omega
theorem le8_lt (f : Nat → UInt8) : le8 f < 18446744073709551616 := by
  have h : le8 f < 256 ^ 8 := leNat_lt [f 0, f 1, f 2, f 3, f 4, f 5, f 6, f 7]
  omega
theorem le8_mod (f : Nat → UInt8) : le8 f % 16 = (f 0).toNat % 16 := by
  show ((f 0).toNat + 256 * _) % 16 = _
  omega

theorem box_cell (w : World) (f : Nat → UInt8) (i : Nat) (hi : i < 16) : (w.alloc (.cells (idList f).toArray 113)).cell? ⟨w.heap.size, i, none⟩ = some (.int .u8 ((f i).toNat : Int)) := by
  rw [World.cell?_alloc_new]
  simpa using idList_get f i hi

theorem u64_box (w W : World) (f : Nat → UInt8) (n c : Nat) (hn : 8 ≤ n) (hb : Below (w.heap.size + 1) (w.alloc (.cells (idList f).toArray 113)) W) :
    Calls Yba.prog 11 #[.agg #[], .slice (some ⟨w.heap.size, 0, none⟩) n c] W fun e w' => e = .returned (.int .u64 (le8 f)) ∧ Below (w.heap.size + 1) (w.alloc (.cells (idList f).toArray 113)) w' := by
  have hc : ∀ i, i < 8 → W.cell? ⟨w.heap.size, 0 + i, none⟩ = some (.int .u8 ((f i).toNat : Int)) := fun i hi => by
    rw [Nat.zero_add, hb.cell (p := ⟨w.heap.size, i, none⟩) (by simp)]
    exact box_cell w f i (by omega)
  refine (Yba.binary_LE_Uint64 w.heap.size 0 n c (f 0) (f 1) (f 2) (f 3) (f 4) (f 5) (f 6) (f 7) W hn (hc 0 (by omega)) (hc 1 (by omega)) (hc 2 (by omega)) (hc 3 (by omega)) (hc 4 (by omega)) (hc 5 (by omega)) (hc 6 (by omega)) (hc 7 (by omega))).mono ?_
  rintro e w' ⟨rfl, h⟩
  refine ⟨rfl, ?_⟩
  exact hb.trans (h.mono (by have := hb.size; simp at this; omega))

theorem u64_box' (w W : World) (f : Nat → UInt8) (x : Array Value) (n c : Nat) (hx : Hid (x = (idList f).toArray)) (hn : 8 ≤ n) (hb : Below (w.heap.size + 1) (w.alloc (.cells x 113)) W) :
    Calls Yba.prog 11 #[.agg #[], .slice (some ⟨w.heap.size, 0, none⟩) n c] W fun e w' => e = .returned (.int .u64 (le8 f)) ∧ Below (w.heap.size + 1) (w.alloc (.cells x 113)) w' := by
  have := hx.out
  subst this
  exact u64_box w W f n c hn hb

attribute [local go_sem ↓] Go.wp_at_zero Go.wp_at_succ
theorem home_at (f : Nat → UInt8) (w : World) :
    Calls Yba.prog 7 #[.agg (idList f).toArray] w fun e w' => e = .returned (.int .u64 (le8 f)) ∧ Below w.heap.size w w' := by
  obtain ⟨x, hx⟩ : ∃ x, x = (idList f).toArray := ⟨_, rfl⟩
  have hxs : x.size = 16 := by rw [hx]; simp [idList_length]
  rw [← hx]
  have HX := Hid.mk hx
  clear hx
  go_enter Yba.func7, Yba.ntmps7
  go_wp2_with fail
  go_region_held3 (fun w' => Below (w.heap.size + 1) (w.alloc (.cells x 113)) w') (first | exact (Below.refl _ _) | exact (Below.refl _ _).drew | exact Below.drew (by assumption) | assumption)
    ((go_at_call 11; refine (u64_box' w _ f x _ _ HX (by omega) ?_).mono ?_; assumption; rintro e w1 ⟨rfl, hb1⟩))
  go_wp2
  have h1 : Below w.heap.size w (w.alloc (.cells x 113)) := (Below.refl _ _).alloc (Nat.le_refl _) _
  go_ret
  exact ⟨rfl, h1.trans (hb1.mono (by omega))⟩

end Go.Proofs.Ybulkatum.Ap
