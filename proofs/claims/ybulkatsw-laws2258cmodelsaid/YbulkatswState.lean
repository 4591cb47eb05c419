import Derived.WalkKit
/-!
The plain state of the waits: what both the graph and the model hold. No Go.
-/
namespace Go.Proofs.Ybulkatsw.Md

structure St where
  wt : Nat → Option (Nat × Nat × Int)
  qu : Nat → Nat → List Int
  hold : Nat → Nat → Nat
  held : Nat → List Nat
  waits : Nat

def St.zero : St := ⟨fun _ => none, fun _ _ => [], fun _ _ => 0, fun _ => [], 0⟩

/-- A request begins to wait. -/
def St.wait (A : St) (t r m : Nat) : St :=
  { A with wt := fun t' => if t' = t then some (r, m, (A.waits : Int)) else A.wt t', qu := fun r' m' => if r' = r ∧ m' = m then A.qu r m ++ [(A.waits : Int)] else A.qu r' m', waits := A.waits + 1 }

/-- t's request, known, waits no longer. -/
def St.unwait (A : St) (t r m : Nat) (o : Int) : St :=
  { A with wt := fun t' => if t' = t then none else A.wt t', qu := fun r' m' => if r' = r ∧ m' = m then (A.qu r m).filter (fun x => decide (x ≠ o)) else A.qu r' m' }

/-- t's request, if there is one, waits no longer. -/
def St.stop (A : St) (t : Nat) : St := match A.wt t with
  | none => A
  | some (r, m, o) => A.unwait t r m o

/-- r is granted to t. -/
def St.grant (A : St) (t r m : Nat) : St :=
  { A with hold := fun r' t' => if r' = r ∧ t' = t then m + 1 else A.hold r' t', held := fun t' => if t' = t then A.held t ++ [r] else A.held t' }

/-- The first holds are given back. -/
def St.back (A : St) (t : Nat) (rs : List Nat) : St :=
  { A with hold := fun r' t' => if t' = t ∧ r' ∈ rs then 0 else A.hold r' t' }

def St.free (A : St) (t : Nat) : St := { A with held := fun t' => if t' = t then [] else A.held t' }

def St.step (A : St) (k t r m : Nat) : St :=
  if k = 0 then A.wait t r m
  else if k = 1 then (A.stop t).grant t r m
  else if k = 2 ∨ k = 3 then ((A.stop t).back t ((A.stop t).held t)).free t
  else A

/-- What every state on the way has, behind n steps. -/
structure Inv (n : Nat) (A : St) : Prop where
  waits : A.waits ≤ n
  sorted : ∀ r m, (A.qu r m).Pairwise (· < ·)
  below : ∀ r m, ∀ x ∈ A.qu r m, x < (A.waits : Int)
  nonneg : ∀ r m, ∀ x ∈ A.qu r m, 0 ≤ x
  wt : ∀ t r m o, A.wt t = some (r, m, o) → r < 3 ∧ m < 2 ∧ o ∈ A.qu r m
  apart : ∀ t t' r m o r' m' o', t ≠ t' → A.wt t = some (r, m, o) → A.wt t' = some (r', m', o') → o ≠ o'
  held : ∀ t, ∀ x ∈ A.held t, x < 3
  heldLen : ∀ t, (A.held t).length ≤ n
  quLen : ∀ r m, (A.qu r m).length ≤ n
  hold : ∀ r t, A.hold r t ≤ 2

theorem Inv.zero : Inv 0 St.zero := by
  refine ⟨Nat.le_refl _, ?_, ?_, ?_, ?_, ?_, ?_, ?_, ?_, ?_⟩ <;> simp [St.zero]

theorem Inv.mono {n n' : Nat} {A : St} (h : Inv n A) (hn : n ≤ n') : Inv n' A :=
  ⟨by have := h.waits; omega, h.sorted, h.below, h.nonneg, h.wt, h.apart, h.held, fun t => by have := h.heldLen t; omega, fun r m => by have := h.quLen r m; omega, h.hold⟩

theorem Inv.wait {n : Nat} {A : St} (h : Inv n A) {t r m : Nat} (hr : r < 3) (hm : m < 2) : Inv (n + 1) (A.wait t r m) := by
  have hw := h.waits
  refine ⟨by simp [St.wait]; omega, ?_, ?_, ?_, ?_, ?_, h.held, fun t => by have := h.heldLen t; simp only [St.wait]; omega, ?_, h.hold⟩
  · intro r' m'
    simp only [St.wait]
    split
    · exact List.pairwise_append.2 ⟨h.sorted r m, by simp, fun x hx y hy => by simp at hy; subst hy; exact h.below r m x hx⟩
    · exact h.sorted r' m'
  · intro r' m' x hx
    simp only [St.wait] at hx ⊢
    split at hx
    · rcases List.mem_append.1 hx with hx | hx
      · have := h.below r m x hx; omega
      · simp at hx; omega
    · have := h.below r' m' x hx; omega
  · intro r' m' x hx
    simp only [St.wait] at hx
    split at hx
    · rcases List.mem_append.1 hx with hx | hx
      · exact h.nonneg r m x hx
      · simp at hx; omega
    · exact h.nonneg r' m' x hx
  · intro t' r' m' o ho
    simp only [St.wait] at ho ⊢
    split at ho
    · cases ho
      refine ⟨hr, hm, ?_⟩
      simp
    · obtain ⟨h1, h2, h3⟩ := h.wt t' r' m' o ho
      refine ⟨h1, h2, ?_⟩
      split
      · rename_i e
        obtain ⟨rfl, rfl⟩ := e
        exact List.mem_append.2 (.inl h3)
      · exact h3
  · intro t1 t2 r1 m1 o1 r2 m2 o2 hne h1 h2
    simp only [St.wait] at h1 h2
    split at h1
    · split at h2
      · omega
      · cases h1
        obtain ⟨_, _, h4⟩ := h.wt _ _ _ _ h2
        have := h.below _ _ _ h4
        omega
    · split at h2
      · cases h2
        obtain ⟨_, _, h4⟩ := h.wt _ _ _ _ h1
        have := h.below _ _ _ h4
        omega
      · exact h.apart t1 t2 _ _ _ _ _ _ hne h1 h2
  · intro r' m'
    simp only [St.wait]
    split
    · have := h.quLen r m
      simp; omega
    · have := h.quLen r' m'
      omega

theorem Inv.unwait {n : Nat} {A : St} (h : Inv n A) {t r m : Nat} {o : Int} (ho : A.wt t = some (r, m, o)) : Inv n (A.unwait t r m o) := by
  refine ⟨h.waits, ?_, ?_, ?_, ?_, ?_, h.held, h.heldLen, ?_, h.hold⟩
  · intro r' m'
    simp only [St.unwait]
    split
    · exact (h.sorted r m).filter _
    · exact h.sorted r' m'
  · intro r' m' x hx
    simp only [St.unwait] at hx ⊢
    split at hx
    · exact h.below r m x (List.mem_filter.1 hx).1
    · exact h.below r' m' x hx
  · intro r' m' x hx
    simp only [St.unwait] at hx
    split at hx
    · exact h.nonneg r m x (List.mem_filter.1 hx).1
    · exact h.nonneg r' m' x hx
  · intro t' r' m' o' ho'
    simp only [St.unwait] at ho' ⊢
    split at ho'
    · cases ho'
    · rename_i hne
      obtain ⟨h1, h2, h3⟩ := h.wt t' r' m' o' ho'
      refine ⟨h1, h2, ?_⟩
      split
      · rename_i e
        obtain ⟨rfl, rfl⟩ := e
        exact List.mem_filter.2 ⟨h3, by simpa using h.apart t' t _ _ _ _ _ _ hne ho' ho⟩
      · exact h3
  · intro t1 t2 r1 m1 o1 r2 m2 o2 hne h1 h2
    simp only [St.unwait] at h1 h2
    split at h1
    · cases h1
    · split at h2
      · cases h2
      · exact h.apart t1 t2 _ _ _ _ _ _ hne h1 h2
  · intro r' m'
    simp only [St.unwait]
    split
    · exact Nat.le_trans (List.length_filter_le _ _) (h.quLen r m)
    · exact h.quLen r' m'

theorem Inv.stop {n : Nat} {A : St} (h : Inv n A) (t : Nat) : Inv n (A.stop t) := by
  unfold St.stop
  split
  · exact h
  · rename_i r m o ho
    exact h.unwait ho

theorem Inv.grant {n : Nat} {A : St} (h : Inv n A) {t r m : Nat} (hr : r < 3) (hm : m < 2) : Inv (n + 1) (A.grant t r m) := by
  have hw := h.waits
  refine ⟨by simp only [St.grant]; omega, h.sorted, h.below, h.nonneg, h.wt, h.apart, ?_, ?_, fun r' m' => by have := h.quLen r' m'; simp only [St.grant]; omega, ?_⟩
  · intro t' x hx
    simp only [St.grant] at hx
    split at hx
    · rcases List.mem_append.1 hx with hx | hx
      · exact h.held t x hx
      · simp at hx; omega
    · exact h.held t' x hx
  · intro t'
    simp only [St.grant]
    split
    · have := h.heldLen t
      simp; omega
    · have := h.heldLen t'
      omega
  · intro r' t'
    simp only [St.grant]
    split
    · omega
    · exact h.hold r' t'

theorem Inv.back {n : Nat} {A : St} (h : Inv n A) (t : Nat) (rs : List Nat) : Inv n (A.back t rs) := by
  refine ⟨h.waits, h.sorted, h.below, h.nonneg, h.wt, h.apart, h.held, h.heldLen, h.quLen, ?_⟩
  intro r' t'
  simp only [St.back]
  split
  · omega
  · exact h.hold r' t'

theorem Inv.free {n : Nat} {A : St} (h : Inv n A) (t : Nat) : Inv n (A.free t) := by
  refine ⟨h.waits, h.sorted, h.below, h.nonneg, h.wt, h.apart, ?_, ?_, h.quLen, h.hold⟩
  · intro t' x hx
    simp only [St.free] at hx
    split at hx
    · cases hx
    · exact h.held t' x hx
  · intro t'
    simp only [St.free]
    split
    · simp
    · exact h.heldLen t'

theorem Inv.step {n : Nat} {A : St} (h : Inv n A) {k t r m : Nat} (hr : r < 3) (hm : m < 2) : Inv (n + 1) (A.step k t r m) := by
  unfold St.step
  split
  · exact h.wait hr hm
  · split
    · exact (h.stop t).grant hr hm
    · split
      · exact (((h.stop t).back t _).free t).mono (by omega)
      · exact h.mono (by omega)

theorem stop_held (A : St) (t : Nat) : (A.stop t).held = A.held := by
  unfold St.stop
  split <;> rfl
theorem stop_hold (A : St) (t : Nat) : (A.stop t).hold = A.hold := by
  unfold St.stop
  split <;> rfl
theorem stop_waits (A : St) (t : Nat) : (A.stop t).waits = A.waits := by
  unfold St.stop
  split <;> rfl

/-- The place of o in a rising list, and the list without it. -/
theorem cut_at : ∀ {xs : List Int} {o : Int}, xs.Pairwise (· < ·) → o ∈ xs →
    xs.countP (fun x => decide (x < o)) < xs.length ∧ xs.take (xs.countP (fun x => decide (x < o))) ++ xs.drop (xs.countP (fun x => decide (x < o)) + 1) = xs.filter (fun x => decide (x ≠ o)) ∧ (xs.filter (fun x => decide (x ≠ o))).length + 1 = xs.length
  | [], o, _, h => by simp at h
  | x :: r, o, hs, h => by
    obtain ⟨h1, h2⟩ := List.pairwise_cons.1 hs
    by_cases hx : x = o
    · subst hx
      have c0 : (x :: r).countP (fun y => decide (y < x)) = 0 := by
        rw [List.countP_eq_zero]
        intro y hy
        rcases List.mem_cons.1 hy with rfl | hy
        · simp
        · have := h1 y hy
          simp; omega
      have f0 : (x :: r).filter (fun y => decide (y ≠ x)) = r := by
        rw [List.filter_cons_of_neg (by simp)]
        refine List.filter_eq_self.2 fun y hy => ?_
        have := h1 y hy
        simp; omega
      rw [c0, f0]
      simp
    · have ho : o ∈ r := by
        rcases List.mem_cons.1 h with e | e
        · exact absurd e.symm hx
        · exact e
      have hlt : x < o := h1 o ho
      obtain ⟨i1, i2, i3⟩ := cut_at h2 ho
      rw [List.countP_cons_of_pos (by simpa using hlt), List.filter_cons_of_pos (by simpa using hx)]
      refine ⟨by simpa using i1, ?_, by simpa using i3⟩
      rw [List.take_succ_cons, List.drop_succ_cons, List.cons_append, i2]

end Go.Proofs.Ybulkatsw.Md
