import Derived.Test.YbulkatswOwn
import Derived.Test.YbulkatswStop
/-!
The whole graph over a plain state; an event.
-/
namespace Go.Proofs.Ybulkatsw.Md
open Go Go.RowKit Mf Rw

/-- The graph's owners. -/
def LG (l : Nat) : Prop := l = 1 ∨ l = 2 ∨ l = 3 ∨ l = 4 ∨ l = 5 ∨ (10 ≤ l ∧ l < 13) ∨ (20 ≤ l ∧ l < 23) ∨ (30 ≤ l ∧ l < 33) ∨ (40 ≤ l ∧ l < 46)

/-- The graph at block G is the state A. -/
def Gr (σ : Nat → Nat) (w : World) (G : Nat) (A : St) : Prop :=
  ∃ Bh Be Bw Bq hv has bh hasq bq qv, GP σ w G Bh Be Bw Bq A.waits ∧ WP σ w Bw A.wt ∧ EP σ w Be hv A.held ∧ HP σ w Bh has bh A.hold ∧ QP σ w Bq hasq bq qv A.qu ∧ HasH has A.hold ∧ HasQ hasq A.qu

theorem Gr.kept {σ : Nat → Nat} {w w' : World} {G : Nat} {A : St} (h : Gr σ w G A) (hs : Same σ LG w w') : Gr σ w' G A := by
  obtain ⟨Bh, Be, Bw, Bq, hv, has, bh, hasq, bq, qv, h1, h2, h3, h4, h5, h6, h7⟩ := h
  exact ⟨Bh, Be, Bw, Bq, hv, has, bh, hasq, bq, qv, h1.kept (hs.mono (by unfold LG; omega)), h2.kept (hs.mono (by unfold LG; omega)), h3.kept (hs.mono (by unfold LG SE; omega)), h4.kept (hs.mono (by unfold LG SH; omega)), h5.kept (hs.mono (by unfold LG SQ; omega)), h6, h7⟩
theorem Gr.sig {σ σ' : Nat → Nat} {w : World} {G : Nat} {A : St} (h : Gr σ w G A) (hσ : ∀ b, b < w.heap.size → σ' b = σ b) : Gr σ' w G A := by
  obtain ⟨Bh, Be, Bw, Bq, hv, has, bh, hasq, bq, qv, h1, h2, h3, h4, h5, h6, h7⟩ := h
  exact ⟨Bh, Be, Bw, Bq, hv, has, bh, hasq, bq, qv, h1.sig hσ, h2.sig hσ, h3.sig hσ, h4.sig hσ, h5.sig hσ, h6, h7⟩

def evCells (K : Int) (t r m : Nat) : Array Value := #[.int .i64 K, .string (tx t), .string (res r), .string (md m), .slice none 0 0, .int .i64 0, .string { data := #[] }, .string { data := #[] }]

/-- What 'apply' leaves. -/
def ApPost (σ : Nat → Nat) (w : World) (G : Nat) (A : St) (w' : World) : Prop :=
  ∃ σ', (∀ b, b < w.heap.size → σ' b = σ b) ∧ (∀ b, w'.heap.size ≤ b → σ' b = 0) ∧ Gr σ' w' G A ∧ Fr σ LG w w'

/-- 'byMode[m] = append(byMode[m], x)', the map known. -/
theorem queue_step {σ : Nat → Nat} {W : World} {Bq : Nat} {has : Nat → Bool} {bq : Nat → Nat} {qv : Nat → Nat → Value} {qu : Nat → Nat → List Int} (Q : QP σ W Bq has bq qv qu) {r m : Nat} (hr : r < 3) (hm : m < 2) (hh : has r = true)
    (hz : ∀ b, W.heap.size ≤ b → σ b = 0) (hlen : (qu r m).length ≤ 1024) (x : Int) (ty : TypeId) :
    ∃ v' w1 w2 σ', (Builtin.append_ #[38, 38] ty #[qv r m, .slice (some ⟨W.heap.size, 0, none⟩) 1 1]).run Yba.prog (W.alloc (.cells #[.int .i64 x] 3)).drew = .ok v' w1 ∧
      (Instr.mapUpdate 75 (.map (some (bq r))) (.string (md m)) v').run Yba.prog w1 = .ok () w2 ∧ (∀ b, b < W.heap.size → σ' b = σ b) ∧ (∀ b, w2.heap.size ≤ b → σ' b = 0) ∧
      QP σ' w2 Bq has bq (fun r' m' => if r' = r ∧ m' = m then v' else qv r' m') (fun r' m' => if r' = r ∧ m' = m then qu r m ++ [x] else qu r' m') ∧
      Fr σ' (fun l => l = 40 + 2 * r + m ∨ l = 20 + r) W w1 ∧ Fr σ' (fun l => l = 40 + 2 * r + m ∨ l = 20 + r) W w2 := by
  obtain ⟨v', w1, σ', happ, a1, a2, a3, a4⟩ := append_ints (σ := σ) (l := 40 + 2 * r + m) ty (Q.vals r hr m hm) x (by rw [ints_length]; exact hlen) hz
  have Q' := Q.sig a1
  rw [← ints_append] at a3
  obtain ⟨w2, hup, Q2, g2⟩ := Q'.storeIn hr hm hh (a4.keep (S := fun l => SQ l ∧ l ≠ 40 + 2 * r + m) (fun l h => h.2)) (by simp) a3
  have lab := Q'.labs r hr hh
  have f1 : Fr σ' (fun l => l = 40 + 2 * r + m ∨ l = 20 + r) W w1 := a4.mono fun l h => .inl h
  exact ⟨v', w1, w2, σ', happ, hup, a1, fun b hb => a2 b (Nat.le_trans g2.size hb), Q2, f1, f1.trans (Fr.of_grown g2 (by rintro b e; cases e; exact .inr lab))⟩

/-- 'g.held[t] = append(g.held[t], r)'. -/
theorem held_step {σ : Nat → Nat} {W : World} {Be : Nat} {hv : Nat → Value} {held : Nat → List Nat} (Q : EP σ W Be hv held) {t : Nat} (ht : t < 3)
    (hz : ∀ b, W.heap.size ≤ b → σ b = 0) (hlen : (held t).length ≤ 1024) (r : Nat) (ty : TypeId) :
    ∃ v' w1 w2 σ', (Builtin.append_ #[55, 55] ty #[hv t, .slice (some ⟨W.heap.size, 0, none⟩) 1 1]).run Yba.prog (W.alloc (.cells #[.string (res r)] 9)).drew = .ok v' w1 ∧
      (Instr.mapUpdate 62 (.map (some Be)) (.string (tx t)) v').run Yba.prog w1 = .ok () w2 ∧ (∀ b, b < W.heap.size → σ' b = σ b) ∧ (∀ b, w2.heap.size ≤ b → σ' b = 0) ∧
      EP σ' w2 Be (fun j => if j = t then v' else hv j) (fun j => if j = t then held t ++ [r] else held j) ∧
      Fr σ' (fun l => l = 30 + t ∨ l = 3) W w1 ∧ Fr σ' (fun l => l = 30 + t ∨ l = 3) W w2 := by
  obtain ⟨v', w1, σ', happ, a1, a2, a3, a4⟩ := append_strs (σ := σ) (l := 30 + t) ty (Q.vals t ht) (res r) (by rw [strs_length]; exact hlen) hz
  have Q' := Q.sig a1
  rw [← strs_append] at a3
  obtain ⟨w2, hup, Q2, g2⟩ := Q'.store ht (a4.keep (S := fun l => SE l ∧ l ≠ 30 + t) (fun l h => h.2)) (by simp) a3
  have f1 : Fr σ' (fun l => l = 30 + t ∨ l = 3) W w1 := a4.mono fun l h => .inl h
  exact ⟨v', w1, w2, σ', happ, hup, a1, fun b hb => a2 b (Nat.le_trans g2.size hb), Q2, f1, f1.trans (Fr.of_grown g2 (by rintro b e; cases e; exact .inr Q'.lab))⟩

theorem hasH_new {has : Nat → Bool} {hold hold' : Nat → Nat → Nat} (h : HasH has hold) {r : Nat} (ho : ∀ r', r' ≠ r → ∀ t, hold' r' t = hold r' t) (hc : hold' r 0 ≠ 0 ∨ hold' r 1 ≠ 0 ∨ hold' r 2 ≠ 0) :
    HasH (fun j => if j = r then true else has j) hold' := by
  intro r' hr'
  by_cases e : r' = r
  · subst e
    simp only [if_true, true_iff]
    exact hc
  · simp only [if_neg e]
    rw [ho r' e, ho r' e, ho r' e]
    exact h r' hr'
theorem hasH_keep {has : Nat → Bool} {hold hold' : Nat → Nat → Nat} (h : HasH has hold) {r : Nat} (ho : ∀ r', r' ≠ r → ∀ t, hold' r' t = hold r' t) (hr : has r = true) (hc : hold' r 0 ≠ 0 ∨ hold' r 1 ≠ 0 ∨ hold' r 2 ≠ 0) : HasH has hold' := by
  intro r' hr'
  by_cases e : r' = r
  · subst e
    simp only [hr, true_iff]
    exact hc
  · rw [ho r' e, ho r' e, ho r' e]
    exact h r' hr'
theorem hasH_drop {has : Nat → Bool} {hold hold' : Nat → Nat → Nat} (h : HasH has hold) {r : Nat} (ho : ∀ r', r' ≠ r → ∀ t, hold' r' t = hold r' t) (h0 : hold' r 0 = 0) (h1 : hold' r 1 = 0) (h2 : hold' r 2 = 0) :
    HasH (fun j => if j = r then false else has j) hold' := by
  intro r' hr'
  by_cases e : r' = r
  · subst e
    simp [h0, h1, h2]
  · simp only [if_neg e]
    rw [ho r' e, ho r' e, ho r' e]
    exact h r' hr'

end Go.Proofs.Ybulkatsw.Md
