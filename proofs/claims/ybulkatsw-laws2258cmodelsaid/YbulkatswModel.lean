import Derived.Test.YbulkatswGraph
/-!
The model's memory: 34 cells and nine slices.
-/
namespace Go.Proofs.Ybulkatsw.Md
open Go Go.RowKit Mf Rw

def LM (l : Nat) : Prop := l = 6 ∨ (50 ≤ l ∧ l < 56) ∨ (60 ≤ l ∧ l < 63)

def wcell (x : Option (Nat × Nat × Int)) (c : Nat) : Value := match x, c with
  | none, 0 => .bool false
  | none, _ => .int .i64 0
  | some _, 0 => .bool true
  | some y, 1 => .int .i64 (y.1 : Int)
  | some y, 2 => .int .i64 (y.2.1 : Int)
  | some y, _ => .int .i64 y.2.2

/-- The cells of the model's block. -/
structure MC (w : World) (M : Nat) (mq : Nat → Nat → Value) (mh : Nat → Value) (A : St) : Prop where
  wt : ∀ t, t < 3 → ∀ c, c < 4 → Cell w M (t * 4 + c) (wcell (A.wt t) c)
  q : ∀ r, r < 3 → ∀ m, m < 2 → Cell w M (12 + r * 2 + m) (mq r m)
  h : ∀ r, r < 3 → ∀ t, t < 3 → Cell w M (18 + r * 3 + t) (.int .i64 (A.hold r t : Int))
  e : ∀ t, t < 3 → Cell w M (27 + t) (mh t)
  on : ∀ t, t < 3 → Cell w M (30 + t) (.bool (decide (A.held t ≠ [])))
  n : Cell w M 33 (.int .i64 (A.waits : Int))

def nats (l : List Nat) : List Int := l.map (fun (r : Nat) => (r : Int))

structure MP (σ : Nat → Nat) (w : World) (M : Nat) (mq : Nat → Nat → Value) (mh : Nat → Value) (A : St) : Prop where
  lab : σ M = 6
  mc : MC w M mq mh A
  qs : ∀ r, r < 3 → ∀ m, m < 2 → Sl w 3 (fun g => σ g = 50 + 2 * r + m) (mq r m) (ints (A.qu r m))
  es : ∀ t, t < 3 → Sl w 3 (fun g => σ g = 60 + t) (mh t) (ints (nats (A.held t)))

variable {σ σ' : Nat → Nat} {w w' : World} {M : Nat} {mq : Nat → Nat → Value} {mh : Nat → Value} {A : St}

theorem MC.of_block (h : MC w M mq mh A) (hb : w'.heap[M]? = w.heap[M]?) : MC w' M mq mh A :=
  ⟨fun t ht c hc => (h.wt t ht c hc).of_block hb, fun r hr m hm => (h.q r hr m hm).of_block hb, fun r hr t ht => (h.h r hr t ht).of_block hb, fun t ht => (h.e t ht).of_block hb, fun t ht => (h.on t ht).of_block hb, h.n.of_block hb⟩
theorem MC.lt (h : MC w M mq mh A) : M < w.heap.size := h.n.lt
theorem MP.kept (h : MP σ w M mq mh A) (hs : Same σ LM w w') : MP σ w' M mq mh A :=
  ⟨h.lab, h.mc.of_block (hs.block M h.mc.lt (by rw [h.lab]; exact .inl rfl)), fun r hr m hm => (h.qs r hr m hm).of_blocks fun g hg hl => hs.block g hg (by rw [hl]; unfold LM; omega),
    fun t ht => (h.es t ht).of_blocks fun g hg hl => hs.block g hg (by rw [hl]; unfold LM; omega)⟩
theorem MP.sig (h : MP σ w M mq mh A) (hσ : ∀ b, b < w.heap.size → σ' b = σ b) : MP σ' w M mq mh A :=
  ⟨(hσ M h.mc.lt).trans h.lab, h.mc, fun r hr m hm => (h.qs r hr m hm).mono fun g hg hl => (hσ g hg).trans hl, fun t ht => (h.es t ht).mono fun g hg hl => (hσ g hg).trans hl⟩

/-- A store into wt[t]. -/
theorem MC.setWt (h : MC w M mq mh A) {t : Nat} (ht : t < 3) (x : Option (Nat × Nat × Int)) :
    MC ((((w.setCell ⟨M, t * 4, none⟩ (wcell x 0)).setCell ⟨M, t * 4 + 1, none⟩ (wcell x 1)).setCell ⟨M, t * 4 + 2, none⟩ (wcell x 2)).setCell ⟨M, t * 4 + 3, none⟩ (wcell x 3)) M mq mh { A with wt := fun j => if j = t then x else A.wt j } := by
  have ot : ∀ {o v}, Cell w M o v → (o < t * 4 ∨ t * 4 + 4 ≤ o) → Cell ((((w.setCell ⟨M, t * 4, none⟩ (wcell x 0)).setCell ⟨M, t * 4 + 1, none⟩ (wcell x 1)).setCell ⟨M, t * 4 + 2, none⟩ (wcell x 2)).setCell ⟨M, t * 4 + 3, none⟩ (wcell x 3)) M o v :=
    fun {o v} hc ho => (((hc.other _ _ _ (.inr (by omega))).other _ _ _ (.inr (by omega))).other _ _ _ (.inr (by omega))).other _ _ _ (.inr (by omega))
  refine ⟨fun t' ht' c hc => ?_, fun r hr m hm => ot (h.q r hr m hm) (by omega), fun r hr t' ht' => ot (h.h r hr t' ht') (by omega), fun t' ht' => ot (h.e t' ht') (by omega), fun t' ht' => ot (h.on t' ht') (by omega), ot h.n (by omega)⟩
  by_cases e : t' = t
  · subst e
    simp only [if_true]
    have c0 := h.wt t' ht 0 (by omega)
    have c1 := h.wt t' ht 1 (by omega)
    have c2 := h.wt t' ht 2 (by omega)
    have c3 := h.wt t' ht 3 (by omega)
    match c, hc with
    | 0, _ => exact (((c0.same _).other _ _ _ (.inr (by omega))).other _ _ _ (.inr (by omega))).other _ _ _ (.inr (by omega))
    | 1, _ => exact (((c1.other _ _ _ (.inr (by omega))).same _).other _ _ _ (.inr (by omega))).other _ _ _ (.inr (by omega))
    | 2, _ => exact (((c2.other _ _ _ (.inr (by omega))).other _ _ _ (.inr (by omega))).same _).other _ _ _ (.inr (by omega))
    | 3, _ => exact (((c3.other _ _ _ (.inr (by omega))).other _ _ _ (.inr (by omega))).other _ _ _ (.inr (by omega))).same _
  · simp only [if_neg e]
    exact ot (h.wt t' ht' c hc) (by omega)

/-- A store into queued[r][m]. -/
theorem MC.setQ (h : MC w M mq mh A) {r m : Nat} (hr : r < 3) (hm : m < 2) (v : Value) (qu : Nat → Nat → List Int) : MC (w.setCell ⟨M, 12 + r * 2 + m, none⟩ v) M (fun r' m' => if r' = r ∧ m' = m then v else mq r' m') mh { A with qu := qu } := by
  refine ⟨fun t ht c hc => (h.wt t ht c hc).other _ _ _ (.inr (by omega)), fun r' hr' m' hm' => ?_, fun r' hr' t ht => (h.h r' hr' t ht).other _ _ _ (.inr (by omega)), fun t ht => (h.e t ht).other _ _ _ (.inr (by omega)), fun t ht => (h.on t ht).other _ _ _ (.inr (by omega)), h.n.other _ _ _ (.inr (by omega))⟩
  by_cases e : r' = r ∧ m' = m
  · obtain ⟨rfl, rfl⟩ := e
    simp only [and_self, if_true]
    exact (h.q r' hr m' hm).same _
  · simp only [if_neg e]
    exact (h.q r' hr' m' hm').other _ _ _ (.inr (by omega))

/-- A store into hold[r][t]. -/
theorem MC.setH (h : MC w M mq mh A) {r t : Nat} (hr : r < 3) (ht : t < 3) (x : Nat) : MC (w.setCell ⟨M, 18 + r * 3 + t, none⟩ (.int .i64 (x : Int))) M mq mh { A with hold := fun r' t' => if r' = r ∧ t' = t then x else A.hold r' t' } := by
  refine ⟨fun t ht c hc => (h.wt t ht c hc).other _ _ _ (.inr (by omega)), fun r' hr' m' hm' => (h.q r' hr' m' hm').other _ _ _ (.inr (by omega)), fun r' hr' t' ht' => ?_, fun t ht => (h.e t ht).other _ _ _ (.inr (by omega)), fun t ht => (h.on t ht).other _ _ _ (.inr (by omega)), h.n.other _ _ _ (.inr (by omega))⟩
  by_cases e : r' = r ∧ t' = t
  · obtain ⟨rfl, rfl⟩ := e
    simp only [and_self, if_true]
    exact (h.h r' hr t' ht).same _
  · simp only [if_neg e]
    exact (h.h r' hr' t' ht').other _ _ _ (.inr (by omega))

/-- Stores into held[t] and heldOn[t]. -/
theorem MC.setE (h : MC w M mq mh A) {t : Nat} (ht : t < 3) (v : Value) (xs : List Nat) : MC ((w.setCell ⟨M, 27 + t, none⟩ v).setCell ⟨M, 30 + t, none⟩ (.bool (decide (xs ≠ [])))) M mq (fun j => if j = t then v else mh j) { A with held := fun j => if j = t then xs else A.held j } := by
  refine ⟨fun t ht c hc => ((h.wt t ht c hc).other _ _ _ (.inr (by omega))).other _ _ _ (.inr (by omega)), fun r' hr' m' hm' => ((h.q r' hr' m' hm').other _ _ _ (.inr (by omega))).other _ _ _ (.inr (by omega)), fun r' hr' t' ht' => ((h.h r' hr' t' ht').other _ _ _ (.inr (by omega))).other _ _ _ (.inr (by omega)), fun t' ht' => ?_, fun t' ht' => ?_, (h.n.other _ _ _ (.inr (by omega))).other _ _ _ (.inr (by omega))⟩
  · by_cases e : t' = t
    · subst e
      simp only [if_true]
      exact ((h.e t' ht).same _).other _ _ _ (.inr (by omega))
    · simp only [if_neg e]
      exact ((h.e t' ht').other _ _ _ (.inr (by omega))).other _ _ _ (.inr (by omega))
  · by_cases e : t' = t
    · subst e
      simp only [if_true]
      exact ((h.on t' ht).other _ _ _ (.inr (by omega))).same _
    · simp only [if_neg e]
      exact ((h.on t' ht').other _ _ _ (.inr (by omega))).other _ _ _ (.inr (by omega))

/-- A store into waits. -/
theorem MC.setN (h : MC w M mq mh A) (x : Nat) : MC (w.setCell ⟨M, 33, none⟩ (.int .i64 (x : Int))) M mq mh { A with waits := x } :=
  ⟨fun t ht c hc => (h.wt t ht c hc).other _ _ _ (.inr (by omega)), fun r' hr' m' hm' => (h.q r' hr' m' hm').other _ _ _ (.inr (by omega)), fun r' hr' t' ht' => (h.h r' hr' t' ht').other _ _ _ (.inr (by omega)), fun t ht => (h.e t ht).other _ _ _ (.inr (by omega)), fun t ht => (h.on t ht).other _ _ _ (.inr (by omega)), h.n.same _⟩

end Go.Proofs.Ybulkatsw.Md
