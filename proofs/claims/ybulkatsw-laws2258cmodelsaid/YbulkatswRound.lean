import Derived.Test.YbulkatswGraph
import Derived.Maps.OwnSet
/-!
One held resource is given back: what the maps do.
-/
namespace Go.Proofs.Ybulkatsw.Md
open Go Go.RowKit Mf Rw

/-- The map of r's holders, or nil. -/
def hmapV (has : Nat → Bool) (bh : Nat → Nat) (r : Nat) : Value := if has r = true then .map (some (bh r)) else .map none

def unhold (hold : Nat → Nat → Nat) (r t : Nat) : Nat → Nat → Nat := fun r' t' => if r' = r ∧ t' = t then 0 else hold r' t'

theorem hold_round {σ : Nat → Nat} {W : World} {Bh : Nat} {has : Nat → Bool} {bh : Nat → Nat} {hold : Nat → Nat → Nat} (H : HP σ W Bh has bh hold) (hH : HasH has hold) {r t : Nat} (hr : r < 3) (ht : t < 3) :
    ∃ (w1 w2 : World) (c : Nat) (has' : Nat → Bool), (Instr.lookup 61 (.map (some Bh)) (.string (res r)) false).run Yba.prog W = .ok (hmapV has bh r) W ∧
      (Builtin.delete_ #[72, 9] 0 #[hmapV has bh r, .string (tx t)]).run Yba.prog W = .ok (.tuple #[]) w1 ∧
      (Instr.lookup 61 (.map (some Bh)) (.string (res r)) false).run Yba.prog w1 = .ok (hmapV has bh r) w1 ∧
      (Builtin.len_ #[72] 3 #[hmapV has bh r]).run Yba.prog w1 = .ok (.int .i64 (c : Int)) w1 ∧
      (Builtin.delete_ #[61, 9] 0 #[.map (some Bh), .string (res r)]).run Yba.prog w1 = .ok (.tuple #[]) w2 ∧
      Fr σ SH W w1 ∧ Fr σ SH w1 w2 ∧ (c ≠ 0 → HP σ w1 Bh has bh (unhold hold r t) ∧ HasH has (unhold hold r t)) ∧ (c = 0 → HP σ w2 Bh has' bh (unhold hold r t) ∧ HasH has' (unhold hold r t)) := by
  have ho : ∀ r', r' ≠ r → ∀ t', unhold hold r t r' t' = hold r' t' := fun r' e t' => by simp [unhold, e]
  by_cases hh : has r = true
  · obtain ⟨w1, hd, H1, g1⟩ := H.deleteIn hr ht hh 0
    have H1 : HP σ w1 Bh has bh (unhold hold r t) := H1
    have lr := H.labs r hr hh
    have lB := H.lab
    have f1 : Fr σ SH W w1 := Fr.of_grown g1 (by rintro b e; cases e; rw [lr]; exact .inr ⟨by omega, by omega⟩)
    have l1 := H1.lenIn hr hh 3
    have k1 := H1.look hr
    obtain ⟨w2, hd2, m2, g2⟩ := H1.map.drop Yba.underlying9 resN Yba.underlying61 hr 9 0
    refine ⟨w1, w2, cnt 3 (hmap (unhold hold r t) r), fun j => if j = r then false else has j, ?_, ?_, ?_, ?_, hd2, f1, Fr.of_grown g2 (by rintro b e; cases e; rw [lB]; exact .inl rfl), fun hc => ⟨H1, ?_⟩, fun hc => ?_⟩
    · exact H.look hr
    · unfold hmapV; rw [if_pos hh]; exact hd
    · exact k1
    · unfold hmapV; rw [if_pos hh]; exact l1
    · refine hasH_keep hH ho hh ?_
      rw [cntH] at hc
      by_cases a0 : unhold hold r t r 0 ≠ 0
      · exact .inl a0
      · by_cases a1 : unhold hold r t r 1 ≠ 0
        · exact .inr (.inl a1)
        · by_cases a2 : unhold hold r t r 2 ≠ 0
          · exact .inr (.inr a2)
          · rw [if_neg a0, if_neg a1, if_neg a2] at hc
            omega
    · rw [cntH] at hc
      have a0 : unhold hold r t r 0 = 0 := by
        by_cases a0 : unhold hold r t r 0 ≠ 0
        · rw [if_pos a0] at hc; omega
        · simpa using a0
      have a1 : unhold hold r t r 1 = 0 := by
        by_cases a0 : unhold hold r t r 1 ≠ 0
        · rw [if_pos a0] at hc; omega
        · simpa using a0
      have a2 : unhold hold r t r 2 = 0 := by
        by_cases a0 : unhold hold r t r 2 ≠ 0
        · rw [if_pos a0] at hc; omega
        · simpa using a0
      refine ⟨H1.drop (r := r) (fun t' ht' => ?_) m2 g2, hasH_drop hH ho a0 a1 a2⟩
      match t', ht' with
      | 0, _ => exact a0
      | 1, _ => exact a1
      | 2, _ => exact a2
  · have hh' : has r = false := by simpa using hh
    have h0 := H.none r hr hh'
    have hu : unhold hold r t = hold := by
      funext r' t'
      unfold unhold
      split
      · rename_i e
        obtain ⟨rfl, rfl⟩ := e
        exact (h0 _ ht).symm
      · rfl
    rw [hu]
    obtain ⟨w2, hd2, m2, g2⟩ := H.map.drop Yba.underlying9 resN Yba.underlying61 hr 9 0
    have lB := H.lab
    refine ⟨W, w2, 0, fun j => if j = r then false else has j, ?_, ?_, ?_, ?_, hd2, Fr.refl _ _ _, Fr.of_grown g2 (by rintro b e; cases e; rw [lB]; exact .inl rfl), fun hc => absurd rfl hc, fun _ => ⟨H.drop (r := r) h0 m2 g2, ?_⟩⟩
    · exact H.look hr
    · unfold hmapV; rw [if_neg hh]; exact Maps.drop_nil (Maps.string_keyed Yba.underlying9) Yba.underlying72 (key_of Yba.underlying9 txN) 0
    · exact H.look hr
    · unfold hmapV; rw [if_neg hh]; exact Maps.len_nil Yba.underlying72 3
    · exact hasH_drop hH (fun _ _ _ => rfl) (h0 0 (by omega)) (h0 1 (by omega)) (h0 2 (by omega))

theorem back_succ (B : St) (t : Nat) (rs : List Nat) (j r : Nat) (hr : rs[j]? = some r) : unhold (B.back t (rs.take j)).hold r t = (B.back t (rs.take (j + 1))).hold := by
  funext r' t'
  have e : ∀ x, x ∈ rs.take (j + 1) ↔ (x ∈ rs.take j ∨ x = r) := by
    intro x
    rw [List.take_add_one, hr]
    simp
  unfold unhold St.back
  simp only [e]
  by_cases h1 : t' = t
  · by_cases h2 : r' = r
    · simp [h1, h2]
    · simp [h1, h2]
  · simp [h1]

end Go.Proofs.Ybulkatsw.Md
