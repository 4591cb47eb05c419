import Derived.Test.YbulkatswSets
/-!
'append(s, x)' to a slice that has an owner: the new array has the same owner.
-/
namespace Go.Proofs.Ybulkatsw.Md
open Go Go.RowKit Mf Rw

theorem info3 : ∃ i, Yba.prog.info? 3 = some i ∧ i.zero = some (.int .i64 0) ∧ i.size = 1 ∧ i.bytes = 8 := by
  have h : (Yba.prog.info? 3).map (fun i => (i.zero, i.size, i.bytes)) = some (some (.int .i64 0), 1, 8) := by kernel_rfl
  cases hq : Yba.prog.info? 3 with
  | none => simp [hq] at h
  | some j =>
    simp [hq] at h
    exact ⟨j, rfl, h.1, h.2.1, h.2.2⟩
theorem info9 : ∃ i, Yba.prog.info? 9 = some i ∧ i.zero = some (.string { data := #[] }) ∧ i.size = 1 ∧ i.bytes = 16 := by
  have h : (Yba.prog.info? 9).map (fun i => (i.zero, i.size, i.bytes)) = some (some (.string { data := #[] }), 1, 16) := by kernel_rfl
  cases hq : Yba.prog.info? 9 with
  | none => simp [hq] at h
  | some j =>
    simp [hq] at h
    exact ⟨j, rfl, h.1, h.2.1, h.2.2⟩

/-- An append at the operation, by its run's equation. -/
theorem wp_append_run {P : Program} {w : World} {o : Oper} {a : Act} {K : Act → World → Prop} {Q : Exit → Act → World → Prop} (s x : Operand) (t : TypeId) (ho : o.op = .call { callee := .builtin .append, args := #[s, x], argTypes := #[t, t] })
    (v vx : Value) (hs : a.eval s = v) (hx : a.eval x = vx) {v' : Value} {w' : World} (hr : (Builtin.append_ #[t, t] o.type #[v, vx]).run P w = .ok v' w') (h : K (a.put o.dst v') w') : o.wp P a w K Q := by
  unfold Oper.wp execOp
  simp only [ho, resolve, invoke, builtin, Sem.run_bind, Sem.run_pure, Result.andThen_ok, List.map_toArray, List.map_cons, List.map_nil, hs, hx, hr]
  exact h
theorem wpList_append_run {P : Program} {w : World} {ops : Array Oper} {rest : List Oper} {o : Oper} {a : Act} {Q : Exit → Act → World → Prop} (hgd : o.guard = none) (s x : Operand) (t : TypeId) (ho : o.op = .call { callee := .builtin .append, args := #[s, x], argTypes := #[t, t] })
    (v vx : Value) (hs : a.eval s = v) (hx : a.eval x = vx) {v' : Value} {w' : World} (hr : (Builtin.append_ #[t, t] o.type #[v, vx]).run P w = .ok v' w') (h : wpList P ops Q rest (a.put o.dst v') w') : wpList P ops Q (o :: rest) a w :=
  wpList_plain hgd fun _ hK => wp_append_run s x t ho v vx hs hx hr (hK _ _ h)
theorem step_append_run {P : Program} {w : World} {ops : Array Oper} {o : Oper} {a : Act} {K : Act → World → Prop} {Q : Exit → Act → World → Prop} {E : Prop} (hgd : o.guard = none) (s x : Operand) (t : TypeId) (ho : o.op = .call { callee := .builtin .append, args := #[s, x], argTypes := #[t, t] })
    (v vx : Value) (hs : a.eval s = v) (hx : a.eval x = vx) {v' : Value} {w' : World} (hr : (Builtin.append_ #[t, t] o.type #[v, vx]).run P w = .ok v' w') (h : K (a.put o.dst v') w') :
    if Region.wanted o (yielded ops a.tmps) = true then Oper.wp P o a w K Q else E := by
  have hw : Region.wanted o (yielded ops a.tmps) = true := by simp [Region.wanted, hgd]
  rw [if_pos hw]
  exact wp_append_run s x t ho v vx hs hx hr h

/-- What an append of one element leaves. -/
def Appended (σ : Nat → Nat) (W : World) (e : TypeId) (l : Nat) (xs : List Value) (v' : Value) (w1 : World) (σ' : Nat → Nat) : Prop :=
  (∀ b, b < W.heap.size → σ' b = σ b) ∧ (∀ b, w1.heap.size ≤ b → σ' b = 0) ∧ Sl w1 e (fun g => σ' g = l) v' xs ∧ Fr σ' (· = l) W w1

theorem append_own {σ : Nat → Nat} {W : World} {e : TypeId} {l : Nat} {v : Value} {xs : List Value} {t : TypeId} {i : TypeInfo} {z : Value} {bytes : Nat} (ty : TypeId) (ht : Yba.prog.underlying t = some (.slice e)) (hi : Yba.prog.info? e = some i)
    (hzz : i.zero = some z) (hsize : i.size = 1) (hby : i.bytes = bytes) (hzs : z.cells.size = 1) (h : Sl W e (fun g => σ g = l) v xs) (x : Value) (hx : x.oneCell' = true) (hlen : xs.length ≤ 1024) (hb : bytes ≤ 16)
    (hz : ∀ b, W.heap.size ≤ b → σ b = 0) :
    ∃ v' w1 σ', (Builtin.append_ #[t, t] ty #[v, .slice (some ⟨W.heap.size, 0, none⟩) 1 1]).run Yba.prog (W.alloc (.cells #[x] e)).drew = .ok v' w1 ∧ Appended σ W e l (xs ++ [x]) v' w1 σ' := by
  have hN : (W.drew.alloc (.cells #[x] e)).heap.size = W.heap.size + 1 := by simp
  have h1 : Sl (W.drew.alloc (.cells #[x] e)) e (fun g => (g < W.heap.size ∧ σ g = l) ∨ g = W.heap.size + 1) v xs :=
    (h.mono (ok' := fun g => (g < W.heap.size ∧ σ g = l) ∨ g = W.heap.size + 1) fun g hg hl => .inl ⟨hg, hl⟩).of_blocks fun g hg _ => heap_alloc_old W.drew _ hg
  have hcell : (W.drew.alloc (.cells #[x] e)).cell? ⟨W.heap.size, 0, none⟩ = some x := (Cell.new W.drew #[x] e 0 x rfl).1
  obtain ⟨v', w1, hr, hS, hg, _⟩ := run_append_sl (P := Yba.prog) t ty i z bytes ht hi hzz hsize hby hzs h1 ⟨W.heap.size, 0, none⟩ 1 x hcell hx (by simp only [maxLen]; omega) (by
    have : (xs.length + 1) * bytes ≤ 1025 * 16 := Nat.mul_le_mul (by omega) hb
    omega) (.inr hN)
  have hsz : W.heap.size + 1 ≤ w1.heap.size := by rw [← hN]; exact hg.size
  have hown : ∀ b, v.ownBlock = some b → b < W.heap.size ∧ σ b = l := by
    intro b hb'
    rcases h with ⟨rfl, _⟩ | ⟨g, off, cap, cur, rfl, hok, hgg, _⟩
    · simp [Value.ownBlock] at hb'
    · simp [Value.ownBlock] at hb'
      subst hb'
      exact ⟨(Array.getElem?_eq_some_iff.1 hgg).1, hok⟩
  refine ⟨v', w1, fun b => if W.heap.size < b ∧ b < w1.heap.size then l else σ b, hr, fun b hb' => if_neg (by omega), fun b hb' => ?_, ?_, ?_⟩
  · dsimp only
    rw [if_neg (by omega)]
    exact hz b (by omega)
  · refine hS.mono fun g hg' hok => ?_
    dsimp only
    rcases hok with ⟨h2, h3⟩ | h2
    · rw [if_neg (by omega)]; exact h3
    · rw [if_pos ⟨by omega, hg'⟩]
  · have f1 : Fr σ (· = l) W w1 := ((Fr.drew σ _ W).trans (Fr.alloc σ _ W.drew (.cells #[x] e))).trans (Fr.of_grown hg fun b hb' => (hown b hb').2)
    exact f1.sig fun b hb' => if_neg (by omega)

theorem append_ints {σ : Nat → Nat} {W : World} {l : Nat} {v : Value} {xs : List Value} (ty : TypeId) (h : Sl W 3 (fun g => σ g = l) v xs) (x : Int) (hlen : xs.length ≤ 1024) (hz : ∀ b, W.heap.size ≤ b → σ b = 0) :
    ∃ v' w1 σ', (Builtin.append_ #[38, 38] ty #[v, .slice (some ⟨W.heap.size, 0, none⟩) 1 1]).run Yba.prog (W.alloc (.cells #[.int .i64 x] 3)).drew = .ok v' w1 ∧ Appended σ W 3 l (xs ++ [.int .i64 x]) v' w1 σ' := by
  obtain ⟨i, h1, h2, h3, h4⟩ := info3
  exact append_own ty Yba.underlying38 h1 h2 h3 h4 rfl h (.int .i64 x) rfl hlen (by omega) hz
theorem append_strs {σ : Nat → Nat} {W : World} {l : Nat} {v : Value} {xs : List Value} (ty : TypeId) (h : Sl W 9 (fun g => σ g = l) v xs) (x : ByteArray) (hlen : xs.length ≤ 1024) (hz : ∀ b, W.heap.size ≤ b → σ b = 0) :
    ∃ v' w1 σ', (Builtin.append_ #[55, 55] ty #[v, .slice (some ⟨W.heap.size, 0, none⟩) 1 1]).run Yba.prog (W.alloc (.cells #[.string x] 9)).drew = .ok v' w1 ∧ Appended σ W 9 l (xs ++ [.string x]) v' w1 σ' := by
  obtain ⟨i, h1, h2, h3, h4⟩ := info9
  exact append_own ty Yba.underlying55 h1 h2 h3 h4 rfl h (.string x) rfl hlen (by omega) hz

end Go.Proofs.Ybulkatsw.Md
