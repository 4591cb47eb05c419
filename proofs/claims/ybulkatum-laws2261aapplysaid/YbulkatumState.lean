import Derived.Test.YbulkatumPlain
namespace Go.Proofs.Ybulkatum.Ap
open Go.RowKit
set_option linter.unusedVariables false

def cnt (S : Nat → Nat) : Nat → Nat
  | 0 => 0
  | m + 1 => cnt S m + (if S m = 0 then 0 else 1)
def upd (S : Nat → Nat) (p x : Nat) : Nat → Nat := fun j => if j = p then x else S j
theorem cnt_far (S : Nat → Nat) (p x : Nat) : ∀ m, m ≤ p → cnt (upd S p x) m = cnt S m
  | 0, _ => rfl
  | m + 1, h => by
    rw [cnt, cnt, cnt_far S p x m (by omega)]
    simp [upd, show m ≠ p by omega]
theorem cnt_set (S : Nat → Nat) (p x : Nat) (h0 : S p = 0) (hx : x ≠ 0) : ∀ m, p < m → cnt (upd S p x) m = cnt S m + 1
  | 0, h => absurd h (Nat.not_lt_zero _)
  | m + 1, h => by
    rw [cnt, cnt]
    by_cases hm : m = p
    · subst hm
      rw [cnt_far S m x m (Nat.le_refl _)]
      simp [upd, h0, hx]
    · rw [cnt_set S p x h0 hx m (by omega)]
      simp [upd, hm]
      omega
theorem cnt_free (S : Nat → Nat) : ∀ m, cnt S m < m → ∃ x, x < m ∧ S x = 0
  | 0, h => absurd h (Nat.not_lt_zero _)
  | m + 1, h => by
    by_cases h0 : S m = 0
    · exact ⟨m, by omega, h0⟩
    · rw [cnt, if_neg h0] at h
      obtain ⟨x, hx, he⟩ := cnt_free S m (by omega)
      exact ⟨x, by omega, he⟩
theorem free_from (S : Nat → Nat) (a : Nat) (h : cnt S 16 < 16) : ∃ d, d < 16 ∧ S ((a + d) % 16) = 0 ∧ ∀ e, e < d → S ((a + e) % 16) ≠ 0 := by
  obtain ⟨y, hy, h0⟩ := cnt_free S 16 h
  have hex : ∃ d, S ((a + d) % 16) = 0 := ⟨y + 16 - a % 16, by rw [show (a + (y + 16 - a % 16)) % 16 = y from by omega]; exact h0⟩
  obtain ⟨d, hd, hl⟩ := exists_least hex
  refine ⟨d, ?_, hd, fun e he h => ?_⟩
  · have := hl ((y + 16 - a % 16) % 16) (by rw [show (a + (y + 16 - a % 16) % 16) % 16 = y from by omega]; exact h0)
    omega
  · have := hl e h
    omega

structure PB (Salt Checks : Nat) (wt : Nat → Bool) (flg : Nat → Int) (i : Nat) (R : Nat → Row) (S : Nat → Nat) (h t : Nat) : Prop where
  row : ∀ j, j < i → (R j).id = idf Salt j ∧ (R j).chk = (((Checks + j) % 4294967296 : Nat) : Int) ∧ (R j).en = (j : Int) ∧ (R j).fl = flg j
  zero : ∀ j, i ≤ j → R j = Row.zero
  lk : Lk R 0 (wl wt i) h t
  off : ∀ j, j < i → wt j = false → (R j).pv = 0 ∧ (R j).nx = 0
  le : ∀ x, x < 16 → S x ≤ i
  num : cnt S 16 = i
  pr : ∀ j, j < i → ∃ d, d < 16 ∧ S ((le8 (idf Salt j) + d) % 16) = j + 1 ∧ ∀ e, e < d → 1 ≤ S ((le8 (idf Salt j) + e) % 16) ∧ S ((le8 (idf Salt j) + e) % 16) ≠ j + 1

theorem PB.start (Salt Checks : Nat) (wt : Nat → Bool) (flg : Nat → Int) : PB Salt Checks wt flg 0 (fun _ => Row.zero) (fun _ => 0) 0 0 :=
  ⟨fun j h => absurd h (Nat.not_lt_zero _), fun _ _ => rfl, ⟨rfl, rfl⟩, fun j h => absurd h (Nat.not_lt_zero _), fun _ _ => Nat.le_refl _, by simp [cnt], fun j h => absurd h (Nat.not_lt_zero _)⟩

def newRow (Salt Checks : Nat) (wt : Nat → Bool) (flg : Nat → Int) (i t : Nat) : Row := ⟨idf Salt i, (i : Int), (((Checks + i) % 4294967296 : Nat) : Int), flg i, if wt i then t else 0, 0⟩
def putRow (R : Nat → Row) (i : Nat) (r : Row) : Nat → Row := fun j => if j = i then r else R j
def stepR (Salt Checks : Nat) (wt : Nat → Bool) (flg : Nat → Int) (i t : Nat) (R : Nat → Row) : Nat → Row :=
  if wt i = true ∧ t ≠ 0 then setNx (putRow R i (newRow Salt Checks wt flg i t)) (t - 1) (i + 1) else putRow R i (newRow Salt Checks wt flg i t)
def stepH (wt : Nat → Bool) (i h t : Nat) : Nat := if wt i = true ∧ t = 0 then i + 1 else h
def stepT (wt : Nat → Bool) (i t : Nat) : Nat := if wt i = true then i + 1 else t

theorem PB.tl {Salt Checks : Nat} {wt : Nat → Bool} {flg : Nat → Int} {i : Nat} {R : Nat → Row} {S : Nat → Nat} {h t : Nat} (b : PB Salt Checks wt flg i R S h t) : t = (wl wt i).getLastD 0 := Lk.tl b.lk
theorem PB.tl_le {Salt Checks : Nat} {wt : Nat → Bool} {flg : Nat → Int} {i : Nat} {R : Nat → Row} {S : Nat → Nat} {h t : Nat} (b : PB Salt Checks wt flg i R S h t) : t ≤ i ∧ (t ≠ 0 ↔ wl wt i ≠ []) := by
  have e := b.tl
  by_cases hn : wl wt i = []
  · rw [hn] at e
    simp at e
    exact ⟨by omega, by simp [hn, e]⟩
  · have hm : t ∈ wl wt i := by rw [e]; exact getLastD_mem hn
    have := wl_mem wt i t hm
    exact ⟨this.2.1, by constructor <;> intro _ <;> first | exact hn | omega⟩

theorem stepR_at {Salt Checks : Nat} {wt : Nat → Bool} {flg : Nat → Int} {i t : Nat} {R : Nat → Row} (ht : t ≤ i) : stepR Salt Checks wt flg i t R i = newRow Salt Checks wt flg i t := by
  unfold stepR
  split
  · rw [setNx, if_neg (by omega)]; simp [putRow]
  · simp [putRow]
theorem stepR_other {Salt Checks : Nat} {wt : Nat → Bool} {flg : Nat → Int} {i t : Nat} {R : Nat → Row} (j : Nat) (hj : j ≠ i) :
    (stepR Salt Checks wt flg i t R j).id = (R j).id ∧ (stepR Salt Checks wt flg i t R j).chk = (R j).chk ∧ (stepR Salt Checks wt flg i t R j).en = (R j).en ∧ (stepR Salt Checks wt flg i t R j).fl = (R j).fl ∧ (stepR Salt Checks wt flg i t R j).pv = (R j).pv ∧ (¬ (wt i = true ∧ j + 1 = t) → stepR Salt Checks wt flg i t R j = R j) := by
  unfold stepR
  split
  · rename_i hw
    unfold setNx
    split
    · rename_i hjt
      simp only [putRow, if_neg hj]
      exact ⟨trivial, trivial, trivial, trivial, trivial, fun hn => absurd ⟨hw.1, by omega⟩ hn⟩
    · simp [putRow, hj]
  · simp [putRow, hj]

theorem PB.step {Salt Checks : Nat} {wt : Nat → Bool} {flg : Nat → Int} {i : Nat} {R : Nat → Row} {S : Nat → Nat} {h t : Nat} (b : PB Salt Checks wt flg i R S h t) (hi : i < 8) (d : Nat) (hd : d < 16) (h0 : S ((le8 (idf Salt i) + d) % 16) = 0) (hne : ∀ e, e < d → S ((le8 (idf Salt i) + e) % 16) ≠ 0) :
    PB Salt Checks wt flg (i + 1) (stepR Salt Checks wt flg i t R) (upd S ((le8 (idf Salt i) + d) % 16) (i + 1)) (stepH wt i h t) (stepT wt i t) := by
  obtain ⟨htl, hte⟩ := b.tl_le
  refine ⟨fun j hj => ?_, fun j hj => ?_, ?_, fun j hj hw => ?_, fun x hx => ?_, ?_, fun j hj => ?_⟩
  · by_cases hji : j = i
    · subst hji
      rw [stepR_at htl]
      exact ⟨rfl, rfl, rfl, rfl⟩
    · obtain ⟨e1, e2, e3, e4, -⟩ := stepR_other (Salt := Salt) (Checks := Checks) (wt := wt) (flg := flg) (t := t) (R := R) j hji
      rw [e1, e2, e3, e4]
      exact b.row j (by omega)
  · rw [(stepR_other j (by omega)).2.2.2.2.2 (by omega)]
    exact b.zero j (by omega)
  · rw [wl]
    by_cases hw : wt i = true
    · rw [if_pos hw]
      have hmem := fun x hx => wl_mem wt i x hx
      by_cases hn : wl wt i = []
      · have ht0 : t = 0 := by
          have := b.tl
          rw [hn] at this
          simpa using this
        rw [hn, stepT, if_pos hw, stepH, if_pos ⟨hw, ht0⟩]
        refine ⟨rfl, ?_, ?_, rfl⟩
        · simp only [Nat.add_sub_cancel]
          rw [stepR_at htl]
          simp [newRow, ht0]
        · simp only [Nat.add_sub_cancel]
          rw [stepR_at htl]
          rfl
      · have ht0 : t ≠ 0 := hte.2 hn
        rw [stepT, if_pos hw, stepH, if_neg (by intro h; exact ht0 h.2)]
        refine Lk.push hn b.lk (fun hm => by have := hmem _ hm; omega) (fun x hx => (hmem x hx).1) (wl_nodup wt i) (fun x hx => ?_) ?_ ?_ ?_
        · have hx := hmem x hx
          obtain ⟨-, -, -, -, e5, e6⟩ := stepR_other (Salt := Salt) (Checks := Checks) (wt := wt) (flg := flg) (t := t) (R := R) (x - 1) (show x - 1 ≠ i by omega)
          exact ⟨e5, fun hxt => by rw [e6 (by omega)]⟩
        · simp [stepR, hw, ht0, setNx]
        · simp only [Nat.add_sub_cancel]
          rw [stepR_at htl]
          simp [newRow, hw]
        · simp only [Nat.add_sub_cancel]
          rw [stepR_at htl]
          rfl
    · rw [if_neg hw, List.append_nil, stepT, if_neg hw, stepH, if_neg (by intro h; exact hw h.1)]
      refine Lk.congr (fun x hx => ?_) b.lk
      have hx := wl_mem wt i x hx
      rw [(stepR_other (x - 1) (by omega)).2.2.2.2.2 (by intro h; exact hw h.1)]
      exact ⟨rfl, rfl⟩
  · by_cases hji : j = i
    · subst hji
      rw [stepR_at htl]
      simp [newRow, hw]
    · have hx := b.off j (by omega) hw
      rw [(stepR_other j hji).2.2.2.2.2 ?_]
      · exact hx
      · rintro ⟨h1, h2⟩
        have hm : t ∈ wl wt i := by
          rw [b.tl]
          exact getLastD_mem (hte.1 (by omega))
        have := (wl_mem wt i t hm).2.2
        rw [← h2, Nat.add_sub_cancel, hw] at this
        cases this
  · unfold upd
    split
    · omega
    · have := b.le x hx; omega
  · rw [cnt_set S _ _ h0 (by omega) 16 (by omega), b.num]
  · by_cases hji : j = i
    · subst hji
      refine ⟨d, hd, by simp [upd], fun e he => ?_⟩
      have h1 := hne e he
      have hne' : (le8 (idf Salt j) + e) % 16 ≠ (le8 (idf Salt j) + d) % 16 := fun h => h1 (by rw [h]; exact h0)
      simp only [upd, if_neg hne']
      have := b.le ((le8 (idf Salt j) + e) % 16) (by omega)
      omega
    · obtain ⟨d', hd', h1, h2⟩ := b.pr j (by omega)
      have key : ∀ q, S q ≠ 0 → upd S ((le8 (idf Salt i) + d) % 16) (i + 1) q = S q := fun q hq => by
        unfold upd
        rw [if_neg (fun h => hq (by rw [h]; exact h0))]
      refine ⟨d', hd', by rw [key _ (by omega)]; exact h1, fun e he => ?_⟩
      have h3 := h2 e he
      rw [key _ (by omega)]
      exact h3

end Go.Proofs.Ybulkatum.Ap
