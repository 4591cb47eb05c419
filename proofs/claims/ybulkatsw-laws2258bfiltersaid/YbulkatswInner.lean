import Derived.Test.YbulkatswBuilt
namespace Go.Proofs.Ybulkatsw.Fo
open Go.RowKit
set_option linter.unusedVariables false

/-- A transaction's cells: all zero but 'wait'. -/
def txCells (wv : Option Addr) : Array Value :=
  #[.string ⟨#[]⟩, .int .u8 0, .int .i32 0, .nilIface, .int .i64 0, .pointer none, .pointer none, .pointer none, .map none, .slice none 0 0, .slice none 0 0, .pointer none, .pointer none,
    .pointer wv, .map none, .slice none 0 0, .map none, .slice none 0 0, .map none, .slice none 0 0, .map none, .int .i64 0, .pointer none, .slice none 0 0, .slice none 0 0, .pointer none, .pointer none]
/-- A request's cells: all zero but its transaction and its leaders. -/
def reqCells (tb : Nat) (lv : Value) : Array Value :=
  #[.pointer (some ⟨tb, 0, none⟩), .pointer none, .int .i64 0, .int .i64 0, .int .i64 0, .bool false, lv, .slice none 0 0, .int .i64 0, .int .i64 0, .slice none 0 0, .pointer none, .int .i64 0, .map none]
/-- The leaders' cells: two each. -/
def leaderCells (ps : List Nat) : List Value := ps.flatMap fun p => [.pointer (some ⟨p, 0, none⟩), .map none]
theorem leaderCells_snoc (ps : List Nat) (p : Nat) : leaderCells (ps ++ [p]) = leaderCells ps ++ [.pointer (some ⟨p, 0, none⟩), .map none] := by simp [leaderCells]
theorem leaderCells_at : ∀ (ps : List Nat) (i : Nat), i < ps.length → (leaderCells ps)[i * 2]? = some (.pointer (some ⟨at0 ps i, 0, none⟩))
  | [], _, h => absurd h (Nat.not_lt_zero _)
  | p :: ps, 0, _ => by simp [leaderCells, at0]
  | p :: ps, i + 1, h => by
    have ih := leaderCells_at ps i (by simpa using h)
    have e : leaderCells (p :: ps) = .pointer (some ⟨p, 0, none⟩) :: .map none :: leaderCells ps := by simp [leaderCells]
    rw [e, show (i + 1) * 2 = i * 2 + 1 + 1 from by omega, List.getElem?_cons_succ, List.getElem?_cons_succ, ih]
    simp [at0]
theorem leaderCells_one (p : Nat) : ∀ u ∈ [Value.pointer (some ⟨p, 0, none⟩), .map none], u.oneCell' = true := by
  intro u hu
  simp at hu
  rcases hu with rfl | rfl <;> rfl

/-- What holds at the head of the loop over the leaders: the item lies in block wr.heap.size, its transaction and its request in the next two. -/
def Inner (B : Nat) (wr wi : World) (it : Array Value) (wv : Option Addr) (m : Nat) (hit : Value) (lv : Value) (ps : List Nat) : Prop :=
  ps.length = m ∧ hit = .bool (ps.any (· == B + 1)) ∧ (∀ p ∈ ps, p = B + 1 ∨ p = B + 3) ∧ wi.heap[wr.heap.size + 1 + 1]? = some (.cells (reqCells (wr.heap.size + 1) lv) 110 (0, 0)) ∧
  wi.ownsRow (wr.heap.size + 3) 115 2 lv m (leaderCells ps) ∧ wi.heap[wr.heap.size + 1]? = some (.cells (txCells wv) 104 (0, 0)) ∧ wi.heap[wr.heap.size]? = some (.cells it 112 (0, 0)) ∧
  Below wr.heap.size wr wi ∧ wr.heap.size + 3 ≤ wi.heap.size

theorem inner_start (B : Nat) (wr : World) (it : Array Value) (wv : Option Addr) :
    Inner B wr (((wr.alloc (.cells it 112)).alloc (.cells (txCells wv) 104)).alloc (.cells (reqCells (wr.heap.size + 1) (.slice none 0 0)) 110)) it wv 0 (.bool false) (.slice none 0 0) [] := by
  refine ⟨rfl, rfl, fun p hp => (by cases hp), ?_, World.ownsRow_nil _ _ _ _, ?_, ?_, ?_, by simp⟩
  · have := heap_alloc_new ((wr.alloc (.cells it 112)).alloc (.cells (txCells wv) 104)) (.cells (reqCells (wr.heap.size + 1) (.slice none 0 0)) 110)
    simpa using this
  · rw [Below.heap_alloc _ _ _ (by simp)]
    have := heap_alloc_new (wr.alloc (.cells it 112)) (.cells (txCells wv) 104)
    simpa using this
  · rw [Below.heap_alloc _ _ _ (by simp; omega), Below.heap_alloc _ _ _ (by simp)]
    exact heap_alloc_new wr (.cells it 112)
  · exact (((Below.refl _ _).alloc (Nat.le_refl _) _).alloc (by simp) _).alloc (by simp; omega) _

/-- Behind the append to the leaders the three blocks are as they were. -/
theorem Inner.grown {B : Nat} {wr wi w1 : World} {it : Array Value} {wv : Option Addr} {m : Nat} {hit lv : Value} {ps : List Nat} (h : Inner B wr wi it wv m hit lv ps) (o : Obj) (hg : (wi.alloc o).grownBy w1 lv.ownBlock) :
    ∀ k, k < wr.heap.size + 3 → w1.heap[k]? = wi.heap[k]? := by
  obtain ⟨h1, h2, h3, h4, h5, h6, h7, h8, h9⟩ := h
  intro k hk
  rw [hg.block k (by simp; omega) (fun e => by have := (h5.lt k e.symm).1; omega), Below.heap_alloc _ _ _ (by omega)]

theorem Inner.step {B : Nat} {wr wi w1 : World} {it : Array Value} {wv : Option Addr} {m : Nat} {hit lv : Value} {ps : List Nat} (h : Inner B wr wi it wv m hit lv ps) (o : Obj) (hg : (wi.alloc o).grownBy w1 lv.ownBlock)
    (p g c : Nat) (hp : p = B + 1 ∨ p = B + 3) (ho : w1.ownsRow (wr.heap.size + 3) 115 2 (.slice (some ⟨g, 0, none⟩) (m + 1) c) (m + 1) (leaderCells ps ++ [.pointer (some ⟨p, 0, none⟩), .map none])) (hit' : Value) (hh : hit' = .bool (ps.any (· == B + 1) || p == B + 1)) :
    Inner B wr (w1.setCell ⟨wr.heap.size + 1 + 1, 6, none⟩ (.slice (some ⟨g, 0, none⟩) (m + 1) c)) it wv (m + 1) hit' (.slice (some ⟨g, 0, none⟩) (m + 1) c) (ps ++ [p]) := by
  have hk := h.grown o hg
  obtain ⟨h1, h2, h3, h4, h5, h6, h7, h8, h9⟩ := h
  have s1 : wi.heap.size ≤ w1.heap.size := by have := hg.size; simp at this; omega
  refine ⟨by simp [h1], by rw [hh, List.any_append]; simp, ?_, ?_, ?_, ?_, ?_, ?_, ?_⟩
  · intro q hq
    rcases List.mem_append.1 hq with hq | hq
    · exact h3 q hq
    · simp at hq; subst hq; exact hp
  · rw [heap_setCell_same _ _ _ (reqCells (wr.heap.size + 1) lv) 110 _ (by rw [hk _ (by omega)]; exact h4)]
    rfl
  · rw [leaderCells_snoc]
    exact ownsRow_setCell_below ho (by show wr.heap.size + 1 + 1 < _; omega) _
  · rw [Below.heap_setCell _ _ _ _ (by show wr.heap.size + 1 ≠ wr.heap.size + 1 + 1; omega), hk _ (by omega)]; exact h6
  · rw [Below.heap_setCell _ _ _ _ (by show wr.heap.size ≠ wr.heap.size + 1 + 1; omega), hk _ (by omega)]; exact h7
  · have b1 : Below wr.heap.size wr w1 := (h8.alloc (by omega) o).grown hg (by simp; omega) (fun k e => by have := (h5.lt k e).1; omega)
    exact b1.setCell (by show wr.heap.size ≤ wr.heap.size + 1 + 1; omega) _
  · simp [World.setCell]; omega

/-- WHAT THE LOOP HAS MADE: a request. -/
theorem Inner.req {B : Nat} {wr wi : World} {it : Array Value} {wv : Option Addr} {m : Nat} {hit lv : Value} {ps : List Nat} (h : Inner B wr wi it wv m hit lv ps) (hm : m ≤ 3) (b : Bool)
    (hwv : wv = none ∨ wv = some ⟨wr.heap.size + 1 + 1, 0, none⟩ ∨ wv = some ⟨B + 3, 0, none⟩) (hb : b = (decide (wv = some ⟨wr.heap.size + 1 + 1, 0, none⟩) && ps.any (· == B + 1)))
    (hq : Blk wr (B + 1) 110) (ho : Blk wr (B + 3) 110) : ReqOk wi (B + 1) (wr.heap.size + 1 + 1) b := by
  obtain ⟨h1, h2, h3, h4, h5, h6, h7, h8, h9⟩ := h
  have hk := KeepsT.below h8
  have hlv : ∃ la c xl, lv = .slice la ps.length c ∧ (0 < ps.length → ∃ lb, la = some ⟨lb, 0, none⟩ ∧ wi.heap[lb]? = some (.cells xl 115 (0, 0)) ∧ ∀ i, i < ps.length → xl[i * 2]? = some (.pointer (some ⟨at0 ps i, 0, none⟩))) := by
    rcases h5.2 with ⟨rfl, hz⟩ | ⟨g, c, cur, rfl, _, hh, hnc, _, hs, ht⟩
    · exact ⟨none, 0, #[], by rw [h1, hz], fun hp => by omega⟩
    · refine ⟨some ⟨g, 0, none⟩, c, cur, by rw [h1], fun _ => ⟨g, rfl, hh, fun i hi => ?_⟩⟩
      have := leaderCells_at ps i hi
      rw [← ht, List.getElem?_take, if_pos (by omega)] at this
      simpa using this
  obtain ⟨la, c, xl, rfl, hl⟩ := hlv
  refine ⟨wr.heap.size + 1, (la.map (·.block)).getD 0, c, wv, la, ps, _, _, xl, h4, rfl, rfl, by omega, h6, rfl, ?_, ?_, ?_, hb⟩
  · rcases hwv with e | e | e
    · exact .inl e
    · exact .inr ⟨_, e, ⟨_, h4⟩⟩
    · exact .inr ⟨_, e, ho.keep hk⟩
  · intro hp
    obtain ⟨lb, rfl, r1, r2⟩ := hl hp
    exact ⟨rfl, r1, r2⟩
  · intro p hp
    rcases h3 p hp with rfl | rfl
    · exact hq.keep hk
    · exact ho.keep hk
end Go.Proofs.Ybulkatsw.Fo
