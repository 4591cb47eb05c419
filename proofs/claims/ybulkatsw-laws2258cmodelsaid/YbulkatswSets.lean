import Derived.Test.YbulkatswFr
import Derived.Laws.IdiomCopy
/-!
Cells written in a row: the block behind it. And the counts of small maps.
-/
namespace Go.Proofs.Ybulkatsw.Md
open Go Go.RowKit Mf Rw

theorem heap_setCell_same {w : World} {g o : Nat} {cur : Array Value} {e : TypeId} {fz : Nat × Nat} (hg : w.heap[g]? = some (.cells cur e fz)) (v : Value) :
    (w.setCell ⟨g, o, none⟩ v).heap[g]? = some (.cells (cur.setIfInBounds o v) e fz) := by
  unfold World.setCell
  simp only [Array.getElem?_modify, hg]
  simp

theorem heap_setCells (g : Nat) (e : TypeId) (fz : Nat × Nat) : ∀ (vs : List Value) (o : Nat) (w : World) (cur : Array Value), w.heap[g]? = some (.cells cur e fz) → o + vs.length ≤ cur.size →
    ∃ cur', (w.setCells g o vs).heap[g]? = some (.cells cur' e fz) ∧ cur'.size = cur.size ∧ cur'.toList = cur.toList.take o ++ vs ++ cur.toList.drop (o + vs.length)
  | [], o, w, cur, hg, _ => ⟨cur, hg, rfl, by simp⟩
  | v :: r, o, w, cur, hg, hl => by
    simp only [List.length_cons] at hl
    obtain ⟨cur', h1, h2, h3⟩ := heap_setCells g e fz r (o + 1) (w.setCell ⟨g, o, none⟩ v) _ (heap_setCell_same hg v) (by simp; omega)
    refine ⟨cur', h1, by rw [h2]; simp, ?_⟩
    rw [h3, Array.toList_setIfInBounds]
    apply List.ext_getElem?
    intro j
    simp only [List.getElem?_append, List.length_append, List.length_take, List.length_set, Array.length_toList, List.getElem?_take, List.getElem?_set, List.getElem?_drop, List.length_cons]
    have hm1 : min (o + 1) cur.size = o + 1 := by omega
    have hm2 : min o cur.size = o := by omega
    rw [hm1, hm2]
    by_cases j1 : j < o
    · rw [if_pos (by omega), if_pos (by omega), if_pos (by omega), if_neg (by omega), if_pos (by omega), if_pos (by omega), if_pos (by omega)]
    · by_cases j2 : j = o
      · subst j2
        rw [if_pos (by omega), if_pos (by omega), if_pos (by omega), if_pos rfl, if_pos (by omega), if_pos (by omega), if_neg (by omega)]
        simp
      · by_cases j3 : j < o + 1 + r.length
        · rw [if_pos (by omega), if_neg (by omega), if_pos (by omega), if_neg (by omega)]
          rw [show j - o = (j - (o + 1)) + 1 by omega]
          simp
        · rw [if_neg (by omega), if_neg (by omega), if_neg (by omega)]
          congr 1
          omega

theorem grown_setCell (w : World) (g o : Nat) (v : Value) : w.grownBy (w.setCell ⟨g, o, none⟩ v) (some g) := by
  refine ⟨rfl, rfl, rfl, by simp, fun k _ hk => RowKit.Below.heap_setCell _ _ _ _ (fun e => hk (by rw [e]))⟩

theorem grown_trans {w w' w'' : World} {row : Option Nat} (h : w.grownBy w' row) (h' : w'.grownBy w'' row) : w.grownBy w'' row :=
  ⟨h'.os.trans h.os, h'.tape.trans h.tape, h'.output.trans h.output, Nat.le_trans h.size h'.size, fun k hk hne => (h'.block k (Nat.lt_of_lt_of_le hk h.size) hne).trans (h.block k hk hne)⟩

theorem grown_setCells (g : Nat) : ∀ (vs : List Value) (o : Nat) (w : World), w.grownBy (w.setCells g o vs) (some g)
  | [], _, _ => ⟨rfl, rfl, rfl, Nat.le_refl _, fun _ _ _ => rfl⟩
  | v :: r, o, w => grown_trans (grown_setCell w g o v) (grown_setCells g r (o + 1) _)

theorem cnt2 (f : Nat → Option Value) : cnt 2 f = (if (f 0).isSome = true then 1 else 0) + (if (f 1).isSome = true then 1 else 0) := by
  simp only [cnt, show List.range 2 = [0, 1] from rfl, List.filter_cons, List.filter_nil]
  split <;> split <;> rfl
theorem cnt3 (f : Nat → Option Value) : cnt 3 f = (if (f 0).isSome = true then 1 else 0) + (if (f 1).isSome = true then 1 else 0) + (if (f 2).isSome = true then 1 else 0) := by
  simp only [cnt, show List.range 3 = [0, 1, 2] from rfl, List.filter_cons, List.filter_nil]
  split <;> split <;> split <;> rfl

theorem qmap_isSome (qv : Nat → Nat → Value) (qu : Nat → Nat → List Int) (r m : Nat) : (qmap qv qu r m).isSome = true ↔ qu r m ≠ [] := by
  unfold qmap
  split <;> simp [*]
theorem hmap_isSome (hold : Nat → Nat → Nat) (r t : Nat) : (hmap hold r t).isSome = true ↔ hold r t ≠ 0 := by
  unfold hmap
  split <;> simp [*]
theorem cntQ (qv : Nat → Nat → Value) (qu : Nat → Nat → List Int) (r : Nat) : cnt 2 (qmap qv qu r) = (if qu r 0 ≠ [] then 1 else 0) + (if qu r 1 ≠ [] then 1 else 0) := by
  rw [cnt2]
  simp only [qmap_isSome]
theorem cntH (hold : Nat → Nat → Nat) (r : Nat) : cnt 3 (hmap hold r) = (if hold r 0 ≠ 0 then 1 else 0) + (if hold r 1 ≠ 0 then 1 else 0) + (if hold r 2 ≠ 0 then 1 else 0) := by
  rw [cnt3]
  simp only [hmap_isSome]

def HasQ (has : Nat → Bool) (qu : Nat → Nat → List Int) : Prop := ∀ r, r < 3 → (has r = true ↔ (qu r 0 ≠ [] ∨ qu r 1 ≠ []))
def HasH (has : Nat → Bool) (hold : Nat → Nat → Nat) : Prop := ∀ r, r < 3 → (has r = true ↔ (hold r 0 ≠ 0 ∨ hold r 1 ≠ 0 ∨ hold r 2 ≠ 0))

theorem hasQ_keep {has : Nat → Bool} {qu qu' : Nat → Nat → List Int} (h : HasQ has qu) {r : Nat} (ho : ∀ r', r' ≠ r → ∀ m, qu' r' m = qu r' m) (hr : has r = true)
    (hc : qu' r 0 ≠ [] ∨ qu' r 1 ≠ []) : HasQ has qu' := by
  intro r' hr'
  by_cases e : r' = r
  · subst e
    simp only [hr, true_iff]
    exact hc
  · rw [ho r' e, ho r' e]
    exact h r' hr'
theorem hasQ_drop {has : Nat → Bool} {qu qu' : Nat → Nat → List Int} (h : HasQ has qu) {r : Nat} (ho : ∀ r', r' ≠ r → ∀ m, qu' r' m = qu r' m) (h0 : qu' r 0 = []) (h1 : qu' r 1 = []) :
    HasQ (fun j => if j = r then false else has j) qu' := by
  intro r' hr'
  by_cases e : r' = r
  · subst e
    simp [h0, h1]
  · simp only [if_neg e]
    rw [ho r' e, ho r' e]
    exact h r' hr'
theorem hasQ_new {has : Nat → Bool} {qu qu' : Nat → Nat → List Int} (h : HasQ has qu) {r : Nat} (ho : ∀ r', r' ≠ r → ∀ m, qu' r' m = qu r' m) (hc : qu' r 0 ≠ [] ∨ qu' r 1 ≠ []) :
    HasQ (fun j => if j = r then true else has j) qu' := by
  intro r' hr'
  by_cases e : r' = r
  · subst e
    simp only [if_true, true_iff]
    exact hc
  · simp only [if_neg e]
    rw [ho r' e, ho r' e]
    exact h r' hr'

end Go.Proofs.Ybulkatsw.Md
