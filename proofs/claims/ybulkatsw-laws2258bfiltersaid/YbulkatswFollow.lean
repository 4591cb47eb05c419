import Derived.Test.YbulkatswProg
import Derived.WalkKit
import Derived.WalkSpells
import Derived.WalkLawsBesides
import Derived.LaidEqlPtr
import Derived.Lib.Builder
import Derived.Laws.Pointers
namespace Go.Proofs.Ybulkatsw.Fo
open Go.RowKit
set_option linter.unusedVariables false

/-- Block g of the world holds cells of type t, none frozen. -/
def Blk (w : World) (g : Nat) (t : TypeId) : Prop := ∃ c : Array Value, w.heap[g]? = some (.cells c t (0, 0))

theorem info110 : ∃ j, Yba.prog.info? 110 = some j ∧ j.size ≠ 0 := by
  have h : (Yba.prog.info? 110).map (fun i => (i.zero.isSome, i.size, i.bytes)) = some (true, 14, 160) := by kernel_rfl
  cases hq : Yba.prog.info? 110 with
  | none => simp [hq] at h
  | some j =>
    refine ⟨j, rfl, ?_⟩
    simp [hq] at h
    omega

/-- '==' between two pointers to requests. -/
theorem eq_run {w : World} {a b : Nat} {ta tb : TypeId} (ha : Blk w a ta) (hb : Blk w b tb) :
    (binOp .eql 23 (.pointer (some ⟨a, 0, none⟩)) (.pointer (some ⟨b, 0, none⟩))).run Yba.prog w = .ok (.bool (a == b)) w := by
  obtain ⟨j, hj, hs⟩ := info110
  by_cases h : a = b
  · subst h
    rw [run_eql_ptr_same w _ Yba.underlying23 hj]
    simp
  · obtain ⟨ca, ha⟩ := ha
    obtain ⟨cb, hb⟩ := hb
    rw [run_eql_ptr_other w Yba.underlying23 hj hs (fun e => h (by injection e)) ha hb]
    simp [h]

theorem waits_any (rb tb : Nat) (wv : Option Addr) (b : Bool) (w : World) (c0 : w.cell? ⟨rb, 0, none⟩ = some (.pointer (some ⟨tb, 0, none⟩))) (c1 : w.cell? ⟨tb, 13, none⟩ = some (.pointer wv))
    (he : (binOp .eql 23 (.pointer wv) (.pointer (some ⟨rb, 0, none⟩))).run Yba.prog w = .ok (.bool b) w) :
    Calls Yba.prog 19 #[.pointer (some ⟨rb, 0, none⟩)] w fun e w' => e = .returned (.bool b) ∧ w' = w := by
  go_enter Yba.func19, Yba.ntmps19
  go_wp2
  go_ret
  exact ⟨rfl, rfl⟩

/-- Where a list's i-th element is asked for by 'getD'. -/
def at0 (ps : List Nat) (i : Nat) : Nat := ps.getD i 0

theorem any_true {ps : List Nat} {k q : Nat} (h : k < ps.length) (e : at0 ps k = q) : ps.any (· == q) = true := by
  rw [List.any_eq_true]
  refine ⟨at0 ps k, ?_, by simp [e]⟩
  simp [at0, List.getD, h]

theorem any_false {ps : List Nat} {q : Nat} (h : ∀ j, j < ps.length → ¬ at0 ps j = q) : ps.any (· == q) = false := by
  rw [List.any_eq_false]
  intro x hx
  obtain ⟨j, hj, rfl⟩ := List.getElem_of_mem hx
  have := h j hj
  simpa [at0, List.getD, hj] using this

theorem all_snoc {ps : List Nat} {k q : Nat} (h : ∀ j, j < k → ¬ at0 ps j = q) (e : ¬ at0 ps k = q) : ∀ j, j < k + 1 → ¬ at0 ps j = q := by
  intro j hj
  rcases Nat.lt_or_ge j k with h1 | h1
  · exact h j h1
  · obtain rfl : j = k := by omega
    exact e

set_option maxHeartbeats 400000 in
theorem leaderOf_any (rb qb lb n c : Nat) (la : Option Addr) (ps : List Nat) (w : World) (c6 : w.cell? ⟨rb, 6, none⟩ = some (.slice la n c)) (hn : n = ps.length) (h3 : n ≤ 3)
    (hla : 0 < n → la = some ⟨lb, 0, none⟩) (hl : Hid (∀ i, i < n → w.cell? ⟨lb, i * 2, none⟩ = some (.pointer (some ⟨at0 ps i, 0, none⟩))))
    (he : Hid (∀ i, i < n → (binOp .eql 23 (.pointer (some ⟨at0 ps i, 0, none⟩)) (.pointer (some ⟨qb, 0, none⟩))).run Yba.prog w = .ok (.bool (at0 ps i == qb)) w)) :
    Calls Yba.prog 20 #[.pointer (some ⟨rb, 0, none⟩), .pointer (some ⟨qb, 0, none⟩)] w fun e w' => ∃ x : Option Addr, e = .returned (.pointer x) ∧ x.isSome = ps.any (· == qb) ∧ w' = w := by
  have HN : Hid (n = ps.length) := hn
  clear hn
  go_enter Yba.func20, Yba.ntmps20
  go_wp2
  go_loop [11] (fun i => ∃ k : Nat, k ≤ n ∧ i = .int .i64 k ∧ ∀ j, j < k → ¬ at0 ps j = qb) (fun i => n - (intOf i).toNat)
  case atStart => exact ⟨0, Nat.zero_le _, rfl, fun j hj => absurd hj (Nat.not_lt_zero _)⟩
  case round =>
    obtain ⟨k, hk, rfl, hno⟩ := hrel
    have HNO : Hid (∀ j, j < k → ¬ at0 ps j = qb) := hno
    clear hno
    by_cases hlt : k < n
    · obtain rfl := hla (by omega)
      clear hla
      have ck := hl.out k hlt
      have ek := he.out k hlt
      have q1 : (k : Int) < (n : Int) := by omega
      obtain ⟨p, hp⟩ : ∃ p, p = at0 ps k := ⟨_, rfl⟩
      rw [← hp] at ck ek
      have HP : Hid (p = at0 ps k) := hp
      clear hp
      by_cases hpq : p = qb
      · have hb : (p == qb) = true := by simp [hpq]
        have HPQ : Hid (p = qb) := hpq
        clear hpq
        go_wp2
        go_ret
        exact ⟨_, rfl, (any_true (HN.out ▸ hlt) (HP.out ▸ HPQ.out)).symm, rfl⟩
      · have hb : (p == qb) = false := by simp [hpq]
        have HPQ : Hid (¬ p = qb) := hpq
        clear hpq
        go_wp2
        go_round
        case rel => exact ⟨k + 1, by omega, by go_num, all_snoc HNO.out (HP.out ▸ HPQ.out)⟩
        case measure => simp [intOf]; omega
    · have q1 : ¬ (k : Int) < (n : Int) := by omega
      go_wp2
      go_ret
      exact ⟨none, rfl, (any_false (fun j hj => HNO.out j (by have := HN.out; omega))).symm, rfl⟩

set_option maxHeartbeats 400000 in
theorem follows_any (rb qb : Nat) (b c : Bool) (w : World) (hw : Hid (∀ w0, w0 = w → Calls Yba.prog 19 #[.pointer (some ⟨rb, 0, none⟩)] w0 fun e w' => e = .returned (.bool b) ∧ w' = w))
    (hl : Hid (Calls Yba.prog 20 #[.pointer (some ⟨rb, 0, none⟩), .pointer (some ⟨qb, 0, none⟩)] w fun e w' => ∃ x : Option Addr, e = .returned (.pointer x) ∧ x.isSome = c ∧ w' = w)) :
    Calls Yba.prog 17 #[.pointer (some ⟨rb, 0, none⟩), .pointer (some ⟨qb, 0, none⟩)] w fun e w' => e = .returned (.bool (b && c)) ∧ w' = w := by
  cases b
  · go_enter Yba.func17, Yba.ntmps17
    go_wp2_with fail
    refine (hw.out _ rfl).mono ?_
    rintro e w' ⟨rfl, rfl⟩
    go_wp2
    go_ret
    exact ⟨rfl, rfl⟩
  · go_enter Yba.func17, Yba.ntmps17
    go_wp2_with fail
    refine (hw.out _ rfl).mono ?_
    rintro e w' ⟨rfl, rfl⟩
    go_wp2_with fail
    refine hl.out.mono ?_
    rintro e w' ⟨x, rfl, hx, rfl⟩
    cases x with
    | none =>
      simp at hx
      subst hx
      go_wp2
      go_ret
      exact ⟨rfl, rfl⟩
    | some x =>
      simp at hx
      subst hx
      go_wp2
      go_ret
      exact ⟨rfl, rfl⟩
end Go.Proofs.Ybulkatsw.Fo
