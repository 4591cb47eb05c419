import Derived.Test.YbulkatswFollow
import Derived.Maps.AppendAt
import Derived.Deep.AppendLies
namespace Go.Proofs.Ybulkatsw.Fo
open Go.RowKit
set_option linter.unusedVariables false

theorem cell_of_blk {w : World} {g o : Nat} {c : Array Value} {t : TypeId} (h : w.heap[g]? = some (.cells c t (0, 0))) : w.cell? ⟨g, o, none⟩ = c[o]? := by simp [World.cell?, h]

/-- The blocks of types 110 (request), 104 (txn), 115 (leader) of w are in w' as they were. -/
def KeepsT (w w' : World) : Prop := ∀ (k : Nat) (x : Array Value) (t : TypeId), t = 110 ∨ t = 104 ∨ t = 115 → w.heap[k]? = some (.cells x t (0, 0)) → w'.heap[k]? = some (.cells x t (0, 0))

theorem KeepsT.refl (w : World) : KeepsT w w := fun _ _ _ _ h => h
theorem KeepsT.trans {a b c : World} (h : KeepsT a b) (k : KeepsT b c) : KeepsT a c := fun i x t ht hx => k i x t ht (h i x t ht hx)
theorem heap_lt {w : World} {k : Nat} {o : Obj} (h : w.heap[k]? = some o) : k < w.heap.size := (Array.getElem?_eq_some_iff.1 h).1
theorem KeepsT.below {w w' : World} (h : Below w.heap.size w w') : KeepsT w w' := fun k x t _ hx => by rw [h.block k (heap_lt hx)]; exact hx
theorem KeepsT.grown {w w' : World} {row : Option Nat} (h : w.grownBy w' row) (hr : ∀ g, row = some g → ∃ e, Blk w g e ∧ e ≠ 110 ∧ e ≠ 104 ∧ e ≠ 115) : KeepsT w w' := by
  intro k x t ht hx
  rw [h.block k (heap_lt hx) ?_]
  · exact hx
  · intro e
    obtain ⟨e', ⟨c, hc⟩, h1, h2, h3⟩ := hr k e.symm
    rw [hx] at hc
    injection hc with hc
    injection hc with _ hc
    subst hc
    rcases ht with h | h | h
    · exact h1 h
    · exact h2 h
    · exact h3 h

theorem Blk.keep {w w' : World} {g : Nat} (h : Blk w g 110) (hk : KeepsT w w') : Blk w' g 110 := by
  obtain ⟨c, hc⟩ := h
  exact ⟨c, hk g c 110 (.inl rfl) hc⟩

/-- Block rb holds a request whose 'follows(q)' is b. -/
def ReqOk (w : World) (qb rb : Nat) (b : Bool) : Prop :=
  ∃ (tb lb c : Nat) (wv la : Option Addr) (ps : List Nat) (xr xt xl : Array Value),
    w.heap[rb]? = some (.cells xr 110 (0, 0)) ∧ xr[0]? = some (.pointer (some ⟨tb, 0, none⟩)) ∧ xr[6]? = some (.slice la ps.length c) ∧ ps.length ≤ 3 ∧
    w.heap[tb]? = some (.cells xt 104 (0, 0)) ∧ xt[13]? = some (.pointer wv) ∧ (wv = none ∨ ∃ v, wv = some ⟨v, 0, none⟩ ∧ Blk w v 110) ∧
    (0 < ps.length → la = some ⟨lb, 0, none⟩ ∧ w.heap[lb]? = some (.cells xl 115 (0, 0)) ∧ ∀ i, i < ps.length → xl[i * 2]? = some (.pointer (some ⟨at0 ps i, 0, none⟩))) ∧
    (∀ p ∈ ps, Blk w p 110) ∧ b = (decide (wv = some ⟨rb, 0, none⟩) && ps.any (· == qb))

theorem ReqOk.keep {w w' : World} {qb rb : Nat} {b : Bool} (h : ReqOk w qb rb b) (hk : KeepsT w w') : ReqOk w' qb rb b := by
  obtain ⟨tb, lb, c, wv, la, ps, xr, xt, xl, h1, h2, h3, h4, h5, h6, h7, h8, h9, h10⟩ := h
  refine ⟨tb, lb, c, wv, la, ps, xr, xt, xl, hk _ _ _ (.inl rfl) h1, h2, h3, h4, hk _ _ _ (.inr (.inl rfl)) h5, h6, ?_, ?_, fun p hp => (h9 p hp).keep hk, h10⟩
  · rcases h7 with h7 | ⟨v, e, hv⟩
    · exact .inl h7
    · exact .inr ⟨v, e, hv.keep hk⟩
  · intro hp
    obtain ⟨e, hl, hx⟩ := h8 hp
    exact ⟨e, hk _ _ _ (.inr (.inr rfl)) hl, hx⟩

theorem ReqOk.follows {w : World} {qb rb : Nat} {b : Bool} (h : ReqOk w qb rb b) (hq : Blk w qb 110) :
    Calls Yba.prog 17 #[.pointer (some ⟨rb, 0, none⟩), .pointer (some ⟨qb, 0, none⟩)] w fun e w' => e = .returned (.bool b) ∧ w' = w := by
  obtain ⟨tb, lb, c, wv, la, ps, xr, xt, xl, h1, h2, h3, h4, h5, h6, h7, h8, h9, rfl⟩ := h
  have c0 : w.cell? ⟨rb, 0, none⟩ = some (.pointer (some ⟨tb, 0, none⟩)) := by rw [cell_of_blk h1]; exact h2
  have c6 : w.cell? ⟨rb, 6, none⟩ = some (.slice la ps.length c) := by rw [cell_of_blk h1]; exact h3
  have c13 : w.cell? ⟨tb, 13, none⟩ = some (.pointer wv) := by rw [cell_of_blk h5]; exact h6
  have hw : (binOp .eql 23 (.pointer wv) (.pointer (some ⟨rb, 0, none⟩))).run Yba.prog w = .ok (.bool (decide (wv = some ⟨rb, 0, none⟩))) w := by
    rcases h7 with rfl | ⟨v, rfl, hv⟩
    · have hp : Yba.prog.underlying 23 = some (.pointer 110) := Yba.underlying23
      have h : ∀ d : Nat, (Op.equalIn (d + 1) 23 (.pointer none) (.pointer (some ⟨rb, 0, none⟩))).run Yba.prog w = .ok false w := fun d => by
        simp [Op.equalIn, run_underlying hp]
      simp only [binOp]
      simp [Op.equal, Op.maxDepth, h 9999]
    · rw [eq_run hv ⟨xr, h1⟩]
      by_cases e : v = rb <;> simp [e]
  refine follows_any rb qb _ _ w (fun w0 e0 => by subst e0; exact waits_any rb tb wv _ w0 c0 c13 hw) ?_
  refine leaderOf_any rb qb lb ps.length c la ps w c6 rfl h4 (fun hp => (h8 hp).1) ?_ ?_
  · intro i hi
    obtain ⟨_, hl, hx⟩ := h8 (by omega)
    rw [cell_of_blk hl]
    exact hx i hi
  · intro i hi
    refine eq_run (h9 _ ?_) hq
    simp [at0, List.getD, hi]

/-- Those of the entries that follow. -/
def kept (es : List (Nat × Bool)) : List Nat := (es.filter (·.2)).map (·.1)
def ptrs (l : List Nat) : List Value := l.map fun p => .pointer (some ⟨p, 0, none⟩)
theorem kept_le (es : List (Nat × Bool)) : (kept es).length ≤ es.length := by
  unfold kept
  rw [List.length_map]
  exact List.length_filter_le _ _
theorem ptrs_length (l : List Nat) : (ptrs l).length = l.length := by simp [ptrs]
theorem kept_snoc (es : List (Nat × Bool)) (k : Nat) (h : k < es.length) : kept (es.take (k + 1)) = kept (es.take k) ++ if es[k].2 then [es[k].1] else [] := by
  unfold kept
  rw [List.take_succ_eq_append_getElem h, List.filter_append, List.map_append]
  cases hb : es[k].2 <;> simp [hb]

theorem ptrs_append (a b : List Nat) : ptrs (a ++ b) = ptrs a ++ ptrs b := by simp [ptrs]
theorem info23 : (Yba.prog.info? 23).map (fun i => (i.zero, i.size, i.bytes)) = some (some (.pointer none), 1, 8) := by kernel_rfl
theorem info4 : (Yba.prog.info? 4).map (fun i => (i.zero, i.size, i.bytes)) = some (some (.bool false), 1, 1) := by kernel_rfl
theorem one_ptr (a : Addr) : ∀ u ∈ [Value.pointer (some a)], u.oneCell' = true := by intro u hu; simp at hu; subst hu; rfl
theorem one_bool (b : Bool) : ∀ u ∈ [Value.bool b], u.oneCell' = true := by intro u hu; simp at hu; subst hu; rfl
end Go.Proofs.Ybulkatsw.Fo
