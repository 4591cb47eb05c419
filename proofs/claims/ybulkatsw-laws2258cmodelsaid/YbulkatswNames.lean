import Derived.Test.YbulkatswProg
import Derived.WalkKit
import Derived.Test.YbulkatswMapF
/-!
The tables: the transactions' names, the resources', the modes'; the kinds (functions 9, 11, 12, 13).
-/
namespace Go.Proofs.Ybulkatsw.Md
open Go Go.RowKit Mf

def tx (i : Nat) : ByteArray := if i = 0 then ⟨#[97]⟩ else if i = 1 then ⟨#[98]⟩ else ⟨#[99]⟩
def res (i : Nat) : ByteArray := if i = 0 then ⟨#[114]⟩ else if i = 1 then ⟨#[115]⟩ else ⟨#[116]⟩
def md (i : Nat) : ByteArray := if i = 0 then ⟨#[83]⟩ else ⟨#[88]⟩
def kind (k : Nat) : Int := if k = 0 then 2 else if k = 1 then 1 else if k = 2 then 5 else if k = 3 then 4 else 10

theorem tx_size (i : Nat) : (tx i).size = 1 := by unfold tx; split; rfl; split <;> rfl
theorem res_size (i : Nat) : (res i).size = 1 := by unfold res; split; rfl; split <;> rfl
theorem md_size (i : Nat) : (md i).size = 1 := by unfold md; split <;> rfl

theorem txN : Names tx 3 := by
  refine ⟨fun i => by rw [tx_size]; simp [maxLen], fun i j hi hj h => ?_⟩
  match i, j, hi, hj with
  | 0, 0, _, _ => rfl
  | 1, 1, _, _ => rfl
  | 2, 2, _, _ => rfl
  | 0, 1, _, _ => simp [tx] at h
  | 0, 2, _, _ => simp [tx] at h
  | 1, 0, _, _ => simp [tx] at h
  | 1, 2, _, _ => simp [tx] at h
  | 2, 0, _, _ => simp [tx] at h
  | 2, 1, _, _ => simp [tx] at h

theorem resN : Names res 3 := by
  refine ⟨fun i => by rw [res_size]; simp [maxLen], fun i j hi hj h => ?_⟩
  match i, j, hi, hj with
  | 0, 0, _, _ => rfl
  | 1, 1, _, _ => rfl
  | 2, 2, _, _ => rfl
  | 0, 1, _, _ => simp [res] at h
  | 0, 2, _, _ => simp [res] at h
  | 1, 0, _, _ => simp [res] at h
  | 1, 2, _, _ => simp [res] at h
  | 2, 0, _, _ => simp [res] at h
  | 2, 1, _, _ => simp [res] at h

theorem mdN : Names md 2 := by
  refine ⟨fun i => by rw [md_size]; simp [maxLen], fun i j hi hj h => ?_⟩
  match i, j, hi, hj with
  | 0, 0, _, _ => rfl
  | 1, 1, _, _ => rfl
  | 0, 1, _, _ => simp [md] at h
  | 1, 0, _, _ => simp [md] at h

theorem tx_in (i : Nat) (w : World) : Calls Yba.prog 11 #[.int .i64 i] w fun e w' => e = .returned (.string (tx i)) ∧ w' = w := by
  by_cases h0 : i = 0
  · subst h0
    go_enter Yba.func11, Yba.ntmps11
    go_wp2
    go_ret
    exact ⟨rfl, rfl⟩
  · by_cases h1 : i = 1
    · subst h1
      go_enter Yba.func11, Yba.ntmps11
      go_wp2
      go_ret
      exact ⟨rfl, rfl⟩
    · have e0 : ¬ (i : Int) = 0 := by omega
      have e1 : ¬ (i : Int) = 1 := by omega
      have et : tx i = ⟨#[99]⟩ := by unfold tx; rw [if_neg h0, if_neg h1]
      rw [et]
      clear h0 h1 et
      go_enter Yba.func11, Yba.ntmps11
      go_wp2
      go_ret
      exact ⟨rfl, rfl⟩

theorem res_in (i : Nat) (w : World) : Calls Yba.prog 12 #[.int .i64 i] w fun e w' => e = .returned (.string (res i)) ∧ w' = w := by
  by_cases h0 : i = 0
  · subst h0
    go_enter Yba.func12, Yba.ntmps12
    go_wp2
    go_ret
    exact ⟨rfl, rfl⟩
  · by_cases h1 : i = 1
    · subst h1
      go_enter Yba.func12, Yba.ntmps12
      go_wp2
      go_ret
      exact ⟨rfl, rfl⟩
    · have e0 : ¬ (i : Int) = 0 := by omega
      have e1 : ¬ (i : Int) = 1 := by omega
      have et : res i = ⟨#[116]⟩ := by unfold res; rw [if_neg h0, if_neg h1]
      rw [et]
      clear h0 h1 et
      go_enter Yba.func12, Yba.ntmps12
      go_wp2
      go_ret
      exact ⟨rfl, rfl⟩

theorem md_in (i : Nat) (w : World) : Calls Yba.prog 13 #[.int .i64 i] w fun e w' => e = .returned (.string (md i)) ∧ w' = w := by
  by_cases h0 : i = 0
  · subst h0
    go_enter Yba.func13, Yba.ntmps13
    go_wp2
    go_ret
    exact ⟨rfl, rfl⟩
  · have e0 : ¬ (i : Int) = 0 := by omega
    have et : md i = ⟨#[88]⟩ := by unfold md; rw [if_neg h0]
    rw [et]
    clear h0 et
    go_enter Yba.func13, Yba.ntmps13
    go_wp2
    go_ret
    exact ⟨rfl, rfl⟩

theorem kind_in (a : UInt8) (w : World) : Calls Yba.prog 9 #[.int .u8 (a.toNat : Int)] w fun e w' => e = .returned (.int .i64 (kind (a.toNat % 5))) ∧ w' = w := by
  obtain ⟨x, hx⟩ : ∃ x : Nat, x = a.toNat := ⟨_, rfl⟩
  have hb : x < 256 := by rw [hx]; exact a.toNat_lt
  rw [← hx]
  clear hx
  obtain ⟨k, hk⟩ : ∃ k : Nat, k = x % 5 := ⟨_, rfl⟩
  have h5 : k < 5 := by omega
  have hq : (x : Int) % 5 = (k : Int) := by omega
  have hq' : (x : Int).tmod 5 = (k : Int) := by rw [Int.tmod_eq_emod_of_nonneg (by omega)]; exact hq
  rw [← hk]
  clear hk hb
  have hwr : IntKind.u8.wrap (k : Int) = (k : Int) := by
    match k, h5 with
    | 0, _ => rfl
    | 1, _ => rfl
    | 2, _ => rfl
    | 3, _ => rfl
    | 4, _ => rfl
  match k, h5 with
  | 0, _ =>
    go_enter Yba.func9, Yba.ntmps9
    go_wp2
    go_ret
    exact ⟨rfl, rfl⟩
  | 1, _ =>
    go_enter Yba.func9, Yba.ntmps9
    go_wp2
    go_ret
    exact ⟨rfl, rfl⟩
  | 2, _ =>
    go_enter Yba.func9, Yba.ntmps9
    go_wp2
    go_ret
    exact ⟨rfl, rfl⟩
  | 3, _ =>
    go_enter Yba.func9, Yba.ntmps9
    go_wp2
    go_ret
    exact ⟨rfl, rfl⟩
  | 4, _ =>
    go_enter Yba.func9, Yba.ntmps9
    go_wp2
    go_ret
    exact ⟨rfl, rfl⟩

end Go.Proofs.Ybulkatsw.Md
