import Derived.Test.YbulkatumStart
namespace Go.Proofs.Ybulkatum.Ap
open Go.RowKit
set_option linter.unusedVariables false

/-- The ID of row j. -/
def idf (Salt j : Nat) : Nat → UInt8 := fun c => if c = 0 then UInt8.ofNat (j * Salt % 256) else if c = 1 then UInt8.ofNat (j + 1) else if c = 15 then UInt8.ofNat (j + 1) else 0

theorem idf_other (Salt i j : Nat) (hi : i < 8) (hj : j < 8) (h : i ≠ j) : idf Salt i 1 ≠ idf Salt j 1 := by
  simp only [idf]
  intro e
  have := congrArg UInt8.toNat e
  simp at this
  omega

/-- The list from cur on, with 'last' ahead of it, is ws; its tail is tl. -/
def Lk (R : Nat → Row) : Nat → List Nat → Nat → Nat → Prop
  | last, [], cur, tl => cur = 0 ∧ tl = last
  | last, x :: ws, cur, tl => cur = x ∧ (R (x - 1)).pv = last ∧ Lk R x ws (R (x - 1)).nx tl

/-- Rows off the list do not matter. -/
theorem Lk.congr {R R' : Nat → Row} : ∀ {ws : List Nat} {last cur tl : Nat}, (∀ x ∈ ws, (R' (x - 1)).pv = (R (x - 1)).pv ∧ (R' (x - 1)).nx = (R (x - 1)).nx) → Lk R last ws cur tl → Lk R' last ws cur tl
  | [], _, _, _, _, h => h
  | x :: ws, last, cur, tl, hR, ⟨h1, h2, h3⟩ => by
    have hx := hR x (by simp)
    refine ⟨h1, hx.1.trans h2, ?_⟩
    rw [hx.2]
    exact Lk.congr (fun y hy => hR y (by simp [hy])) h3

/-- The tail of a list. -/
theorem Lk.tl {R : Nat → Row} : ∀ {ws : List Nat} {last cur tl : Nat}, Lk R last ws cur tl → tl = ws.getLastD last
  | [], _, _, _, h => h.2
  | x :: ws, last, cur, tl, ⟨h1, h2, h3⟩ => by
    rw [Lk.tl h3]
    cases ws <;> simp [List.getLastD]

/-- One more at the end of a list that is not empty. -/
theorem Lk.push {R R' : Nat → Row} {n : Nat} : ∀ {ws : List Nat} {last cur tl : Nat}, ws ≠ [] → Lk R last ws cur tl → n ∉ ws → (∀ x ∈ ws, 1 ≤ x) → ws.Nodup →
    (∀ x ∈ ws, (R' (x - 1)).pv = (R (x - 1)).pv ∧ (x ≠ tl → (R' (x - 1)).nx = (R (x - 1)).nx)) → (R' (tl - 1)).nx = n → (R' (n - 1)).pv = tl → (R' (n - 1)).nx = 0 → Lk R' last (ws ++ [n]) cur n
  | [], _, _, _, h, _, _, _, _, _, _, _, _ => absurd rfl h
  | [x], last, cur, tl, _, ⟨h1, h2, h3, h4⟩, hn, hp, hd, hR, hl, hpv, hnx => by
    subst h4
    exact ⟨h1, (hR tl (by simp)).1.trans h2, hl, hpv, hnx, rfl⟩
  | x :: y :: ws, last, cur, tl, _, ⟨h1, h2, h3⟩, hn, hp, hd, hR, hl, hpv, hnx => by
    have htl := Lk.tl h3
    have hxt : x ≠ tl := by
      intro e
      rw [htl] at e
      have hm : (y :: ws).getLastD x ∈ y :: ws := by
        rw [List.getLastD_eq_getLast?, List.getLast?_eq_some_getLast (by simp)]
        simp
      rw [← e] at hm
      exact absurd hm (by have := hd; simp at this; simp; exact this.1)
    have hx := hR x (by simp)
    refine ⟨h1, hx.1.trans h2, ?_⟩
    rw [hx.2 hxt]
    exact Lk.push (by simp) h3 (fun h => hn (List.mem_cons_of_mem _ h)) (fun z hz => hp z (List.mem_cons_of_mem _ hz)) (List.nodup_cons.1 hd).2 (fun z hz => hR z (List.mem_cons_of_mem _ hz)) hl hpv hnx

theorem Lk.pvOf {R : Nat → Row} {x : Nat} {post : List Nat} : ∀ {pre : List Nat} {last cur tl : Nat}, Lk R last (pre ++ x :: post) cur tl → (R (x - 1)).pv = pre.getLastD last
  | [], _, _, _, h => h.2.1
  | a :: pre, last, cur, tl, h => by
    rw [Lk.pvOf (pre := pre) h.2.2]
    cases pre <;> simp [List.getLastD]
theorem Lk.nxOf {R : Nat → Row} {x : Nat} {post : List Nat} : ∀ {pre : List Nat} {last cur tl : Nat}, Lk R last (pre ++ x :: post) cur tl → (R (x - 1)).nx = post.headD 0
  | [], _, _, _, h => by
    cases post with
    | nil => exact h.2.2.1
    | cons y post => exact h.2.2.1
  | a :: pre, last, cur, tl, h => Lk.nxOf (pre := pre) h.2.2
theorem getLastD_mem : ∀ {l : List Nat} {d : Nat}, l ≠ [] → l.getLastD d ∈ l := by
  intro l d h
  rw [List.getLastD_eq_getLast?, List.getLast?_eq_some_getLast h]
  simp

/-- One taken out. -/
theorem Lk.remove {R R' : Nat → Row} {x p q : Nat} {post : List Nat} (hp : (R (x - 1)).pv = p) (hq : (R (x - 1)).nx = q) : ∀ {pre : List Nat} {last cur tl : Nat}, Lk R last (pre ++ x :: post) cur tl → (pre ++ x :: post).Nodup → p ∉ post → q ∉ pre →
    (∀ y ∈ pre ++ post, y ≠ p → (R' (y - 1)).nx = (R (y - 1)).nx) → (∀ y ∈ pre ++ post, y ≠ q → (R' (y - 1)).pv = (R (y - 1)).pv) → (pre ≠ [] → (R' (p - 1)).nx = q) → (post ≠ [] → (R' (q - 1)).pv = p) →
    Lk R' last (pre ++ post) (if pre = [] then q else cur) (if post = [] then p else tl)
  | [], last, cur, tl, h, hd, hpp, hqp, h1, h2, h3, h4 => by
    obtain ⟨g1, g2, g3⟩ := h
    have hpl : p = last := by rw [← hp]; exact g2
    rw [hq] at g3
    cases post with
    | nil => exact ⟨g3.1, hpl⟩
    | cons y post =>
      obtain ⟨k1, k2, k3⟩ := g3
      have hyp : y ≠ p := fun e => hpp (by simp [e])
      refine ⟨k1, ?_, ?_⟩
      · have := h4 (by simp)
        rw [k1] at this
        rw [this, hpl]
      · rw [h1 y (by simp) hyp]
        refine Lk.congr (fun z hz => ⟨h2 z (by simp [hz]) ?_, h1 z (by simp [hz]) ?_⟩) k3
        · rw [k1]
          intro e
          rw [e] at hz
          simp at hd
          exact hd.2.1 hz
        · intro e
          exact hpp (by rw [← e]; simp [hz])
  | a :: pre, last, cur, tl, h, hd, hpp, hqp, h1, h2, h3, h4 => by
    obtain ⟨g1, g2, g3⟩ := h
    have haq : a ≠ q := fun e => hqp (by simp [e])
    have hd' : (pre ++ x :: post).Nodup := (List.nodup_cons.1 hd).2
    have ih := Lk.remove hp hq (pre := pre) g3 hd' hpp (fun e => hqp (List.mem_cons_of_mem _ e)) (fun y hy => h1 y (List.mem_cons_of_mem _ hy)) (fun y hy => h2 y (List.mem_cons_of_mem _ hy)) (fun _ => h3 (by simp)) h4
    refine ⟨g1, ?_, ?_⟩
    · rw [h2 a (by simp) haq, g2]
    · have hpv := Lk.pvOf g3
      rw [hp] at hpv
      by_cases hpre : pre = []
      · subst hpre
        rw [if_pos rfl] at ih
        have hpa : p = a := hpv
        have := h3 (by simp)
        rw [hpa] at this
        rw [this]
        exact ih
      · rw [if_neg hpre] at ih
        have hm : p ∈ pre := by rw [hpv]; exact getLastD_mem hpre
        have hap : a ≠ p := fun e => (List.nodup_cons.1 hd).1 (by rw [e]; simp [hm])
        rw [h1 a (by simp) hap]
        exact ih

/-- The waiting refs; those but t's. -/
def wl (wt : Nat → Bool) : Nat → List Nat
  | 0 => []
  | i + 1 => wl wt i ++ (if wt i then [i + 1] else [])
def ex (wt : Nat → Bool) (t : Nat) : Nat → List Nat
  | 0 => []
  | i + 1 => ex wt t i ++ (if i ≠ t ∧ wt i = true then [i + 1] else [])

theorem wl_mem (wt : Nat → Bool) : ∀ (i x : Nat), x ∈ wl wt i → 1 ≤ x ∧ x ≤ i ∧ wt (x - 1) = true
  | 0, x, h => by simp [wl] at h
  | i + 1, x, h => by
    rw [wl, List.mem_append] at h
    rcases h with h | h
    · have := wl_mem wt i x h
      exact ⟨this.1, by omega, this.2.2⟩
    · split at h
      · simp at h
        subst h
        rename_i hw
        exact ⟨by omega, by omega, hw⟩
      · simp at h
theorem wl_in (wt : Nat → Bool) : ∀ (i j : Nat), j < i → wt j = true → j + 1 ∈ wl wt i
  | 0, _, h, _ => absurd h (Nat.not_lt_zero _)
  | i + 1, j, h, hw => by
    rw [wl, List.mem_append]
    by_cases hji : j = i
    · subst hji
      right
      simp [hw]
    · left
      exact wl_in wt i j (by omega) hw
theorem wl_nodup (wt : Nat → Bool) : ∀ i : Nat, (wl wt i).Nodup
  | 0 => by simp [wl]
  | i + 1 => by
    rw [wl, List.nodup_append]
    refine ⟨wl_nodup wt i, by split <;> simp, ?_⟩
    intro a ha b hb
    have := wl_mem wt i a ha
    split at hb
    · simp at hb; omega
    · simp at hb
theorem ex_same (wt : Nat → Bool) (t : Nat) : ∀ i : Nat, (i ≤ t ∨ wt t = false) → ex wt t i = wl wt i
  | 0, _ => rfl
  | i + 1, h => by
    rw [ex, wl, ex_same wt t i (h.imp (fun h => by omega) id)]
    congr 1
    by_cases hit : i = t
    · subst hit
      rcases h with h | h
      · omega
      · simp [h]
    · simp [hit]
theorem wl_split (wt : Nat → Bool) (t : Nat) : ∀ i : Nat, t < i → wt t = true → ∃ pre post, wl wt i = pre ++ (t + 1) :: post ∧ ex wt t i = pre ++ post
  | 0, h, _ => absurd h (Nat.not_lt_zero _)
  | i + 1, h, hw => by
    by_cases hit : i = t
    · subst hit
      refine ⟨wl wt i, [], ?_, ?_⟩
      · rw [wl]; simp [hw]
      · rw [ex, ex_same wt i i (.inl (Nat.le_refl _))]; simp
    · obtain ⟨pre, post, h1, h2⟩ := wl_split wt t i (by omega) hw
      refine ⟨pre, post ++ (if wt i then [i + 1] else []), ?_, ?_⟩
      · rw [wl, h1]; simp
      · rw [ex, h2]; simp [hit]

end Go.Proofs.Ybulkatum.Ap
