import Derived.Test.YbulkatumAfter
namespace Go.Proofs.Ybulkatum.Ap
open Go.RowKit
set_option linter.unusedVariables false

/-- 'copy' of elements of s cells each. -/
theorem run_copy_wide {P : Program} (w : World) (dT sT ty elem : TypeId) (b o dLen dCap : Nat) (a : Addr) (sLen sCap s : Nat) (cs : List Value)
    (hu : P.underlying dT = some (.slice elem)) (hs : (P.info? elem).map (·.size) = some s) (hn : cs.length = Nat.min sLen dLen * s)
    (hsrc : ∀ j v, cs[j]? = some v → w.cell? (a.add j) = some v) (hc : ∀ j, j < cs.length → (w.cell? ⟨b, o + j, none⟩).isSome = true) (hf : ∀ j, j < cs.length → w.frozen? ⟨b, o + j, none⟩ = false) (h1 : ∀ v ∈ cs, v.oneCell' = true) :
    (Builtin.copy_ #[dT, sT] ty #[.slice (some ⟨b, o, none⟩) dLen dCap, .slice (some a) sLen sCap]).run P w = .ok (goInt (Nat.min sLen dLen)) (w.setCells b o cs) := by
  have hl := run_loadCells_list (P := P) w a cs hsrc
  have hst := run_storeCells_cells (P := P) b o cs 0 w (by simpa using hc) (by simpa using hf) h1
  cases hq : P.info? elem with
  | none => simp [hq] at hs
  | some i =>
    have hi : i.size = s := by simpa [hq] using hs
    simp [Builtin.copy_, run_underlying hu, Builtin.lenOf, Builtin.firstCells, sizeOf, typeInfo, hq, hi, ← hn, hl, hst]

theorem info126 : (Yba.prog.info? 126).map (fun i => (i.zero, i.size, i.bytes)) = some (some (.agg zrow.toArray), 48, 104) := by kernel_rfl

/-- The k rows' cells. -/
def rowsList (R : Nat → Row) (k : Nat) : List Value := (List.range (k * 48)).map fun j => rowCell (R (j / 48)) (j % 48)
theorem rowsList_length (R : Nat → Row) (k : Nat) : (rowsList R k).length = k * 48 := by simp [rowsList]
theorem rowsList_get (R : Nat → Row) (k i c : Nat) (hi : i < k) (hc : c < 48) : (rowsList R k)[i * 48 + c]? = some (rowCell (R i) c) := by
  have : i * 48 + c < k * 48 := by omega
  rw [rowsList, List.getElem?_map, List.getElem?_range this]
  simp only [Option.map_some]
  rw [show (i * 48 + c) / 48 = i by omega, show (i * 48 + c) % 48 = c by omega]
theorem rowCell_one (r : Row) (c : Nat) : (rowCell r c).oneCell' = true := by
  unfold rowCell
  repeat' split
  all_goals rfl
theorem rowsList_one (R : Nat → Row) (k : Nat) : ∀ v ∈ rowsList R k, v.oneCell' = true := by
  intro v hv
  simp only [rowsList, List.mem_map] at hv
  obtain ⟨j, _, rfl⟩ := hv
  exact rowCell_one _ _

theorem make109 (k : Nat) (hk : k ≤ 8) (W : World) : (Instr.makeSlice 109 (.int .i64 (k : Int)) (.int .i64 (k : Int))).run Yba.prog W = .ok (.slice (some ⟨W.heap.size, 0, none⟩) k k) (W.alloc (.cells (madeCells zrow.toArray (k * 48)) 126)) := by
  obtain ⟨i0, hi, hz0, hz1, hz2⟩ := info_parts info126
  have := run_make (P := Yba.prog) W 109 126 i0 (.agg zrow.toArray) Yba.underlying109 hi hz0 .i64 .i64 (k : Int) (k : Int) (by omega) (by omega) (by rw [hz2]; omega) (by omega)
  rw [this, hz1]
  have e1 : ((k : Int)).toNat = k := by omega
  rw [e1]
  rfl

/-- The rows that 'was' holds. -/
def Was (w : World) (u k : Nat) (R : Nat → Row) : Prop := ∀ i, i < k → ∀ c, c < 48 → Cell w u (i * 48 + c) (rowCell (R i) c)
theorem Was.keep {w w' : World} {u k : Nat} {R : Nat → Row} (h : Was w u k R) (hk : ∀ o v, Cell w u o v → Cell w' u o v) : Was w' u k R := fun i hi c hc => hk _ _ (h i hi c hc)

theorem copy_run (W : World) (n k : Nat) (R : Nat → Row) (S : Nat → Nat) (h t : Nat) (hk : k ≤ 8) (hk1 : 1 ≤ k) (hM : Mem W n R S h t) (hn : n + 5 < W.heap.size) :
    ∃ W2, (Builtin.copy_ #[109, 109] 3 #[.slice (some ⟨W.heap.size, 0, none⟩) k k, .slice (some ⟨n + 3, 0, none⟩) k 1024]).run Yba.prog (W.alloc (.cells (madeCells zrow.toArray (k * 48)) 126)) = .ok (.int .i64 (k : Int)) W2 ∧
      Was W2 W.heap.size k R ∧ Below W.heap.size W W2 ∧ W2.heap.size = W.heap.size + 1 := by
  have hb : Below W.heap.size W (W.alloc (.cells (madeCells zrow.toArray (k * 48)) 126)) := (Below.refl _ _).alloc (Nat.le_refl _) _
  have hM' := hM.keep (Keeps.below hb)
  have hth : (W.alloc (.cells (madeCells zrow.toArray (k * 48)) 126)).there W.heap.size 0 (k * 48) := by
    have := there_of_heap (heap_alloc_new W (.cells (madeCells zrow.toArray (k * 48)) 126))
    rw [size_madeCells] at this
    exact this
  have hr := run_copy_wide (P := Yba.prog) (W.alloc (.cells (madeCells zrow.toArray (k * 48)) 126)) 109 109 3 126 W.heap.size 0 k k ⟨n + 3, 0, none⟩ k 1024 48 (rowsList R k) Yba.underlying109 (by kernel_rfl) (by rw [rowsList_length]; simp) (fun j v hv => by
      have hj : j < k * 48 := by have := (List.getElem?_eq_some_iff.1 hv).1; rw [rowsList_length] at this; exact this
      have hd : j / 48 < k := by omega
      have e : j = j / 48 * 48 + j % 48 := by omega
      rw [e, rowsList_get R k _ _ hd (Nat.mod_lt _ (by omega))] at hv
      rw [Addr.add_mid, Nat.zero_add]
      rw [e]
      rw [(hM'.rows (j / 48) (by omega) (j % 48) (Nat.mod_lt _ (by omega))).1]
      exact hv) (fun j hj => (hth j (by rw [rowsList_length] at hj; exact hj)).1) (fun j hj => (hth j (by rw [rowsList_length] at hj; exact hj)).2) (rowsList_one R k)
  have hmin : Nat.min k k = k := Nat.min_self k
  rw [hmin] at hr
  refine ⟨_, hr, fun i hi c hc => ?_, below_setCells (Nat.le_refl _) _ _ _ hb, by rw [size_setCells]; simp⟩
  have hrg := World.rangeAt_setCells_same (W.alloc (.cells (madeCells zrow.toArray (k * 48)) 126)) W.heap.size 0 (rowsList R k) (by rw [rowsList_length]; exact hth)
  refine ⟨?_, by rw [World.frozen?_setCells]; have := (hth (i * 48 + c) (by omega)).2; rw [Nat.zero_add] at this; exact this⟩
  have := hrg (i * 48 + c) _ (rowsList_get R k i c hi hc)
  rw [Nat.zero_add] at this
  exact this

end Go.Proofs.Ybulkatum.Ap
