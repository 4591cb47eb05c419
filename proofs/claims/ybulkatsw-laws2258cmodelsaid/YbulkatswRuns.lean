import Derived.Test.YbulkatswParts
/-!
The graph's maps at the operations: look-ups, stores, deletes, lengths, as equations of runs.
-/
namespace Go.Proofs.Ybulkatsw.Md
open Go Go.RowKit Mf Rw

def zreq : Value := .agg #[.string { data := #[] }, .string { data := #[] }, .int .i64 0]

variable {σ σ' : Nat → Nat} {w w' : World} {B : Nat}

theorem WP.look {wt} (h : WP σ w B wt) {t : Nat} (ht : t < 3) : (Instr.lookup 63 (.map (some B)) (.string (tx t)) true).run Yba.prog w = .ok (.tuple #[((wt t).map reqV).getD zreq, .bool (wt t).isSome]) w := by
  have := h.map.look Yba.underlying9 txN Yba.underlying63 (Yba.zeroValue68 w) true ht
  simpa [zreq] using this
theorem WP.store {wt : Nat → Option (Nat × Nat × Int)} (h : WP σ w B wt) {t : Nat} (ht : t < 3) (x : Nat × Nat × Int) :
    ∃ w', (Instr.mapUpdate 63 (.map (some B)) (.string (tx t)) (reqV x)).run Yba.prog w = .ok () w' ∧ WP σ w' B (fun j => if j = t then some x else wt j) ∧ w.grownBy w' (some B) := by
  obtain ⟨w', h1, h2, h3⟩ := h.map.put Yba.underlying9 txN Yba.underlying63 ht (reqV x)
  exact ⟨w', h1, h.put t x h2, h3⟩
theorem WP.delete {wt : Nat → Option (Nat × Nat × Int)} (h : WP σ w B wt) {t : Nat} (ht : t < 3) (ty : TypeId) :
    ∃ w', (Builtin.delete_ #[63, 9] ty #[.map (some B), .string (tx t)]).run Yba.prog w = .ok (.tuple #[]) w' ∧ WP σ w' B (fun j => if j = t then none else wt j) ∧ w.grownBy w' (some B) := by
  obtain ⟨w', h1, h2, h3⟩ := h.map.drop Yba.underlying9 txN Yba.underlying63 ht 9 ty
  exact ⟨w', h1, h.del t h2, h3⟩

theorem QP.look {has bq qv qu} (h : QP σ w B has bq qv qu) {r : Nat} (hr : r < 3) : (Instr.lookup 64 (.map (some B)) (.string (res r)) false).run Yba.prog w = .ok (if has r = true then .map (some (bq r)) else .map Option.none) w := by
  have := h.map.look Yba.underlying9 resN Yba.underlying64 (Yba.zeroValue75 w) false hr
  rw [this]
  cases has r <;> simp
theorem QP.look_ok {has bq qv qu} (h : QP σ w B has bq qv qu) {r : Nat} (hr : r < 3) : (Instr.lookup 64 (.map (some B)) (.string (res r)) true).run Yba.prog w = .ok (.tuple #[if has r = true then .map (some (bq r)) else .map Option.none, .bool (has r)]) w := by
  have := h.map.look Yba.underlying9 resN Yba.underlying64 (Yba.zeroValue75 w) true hr
  rw [this]
  cases has r <;> simp
theorem QP.store {has : Nat → Bool} {bq qv qu} (h : QP σ w B has bq qv qu) {r b : Nat} (hr : r < 3) (hn : has r = false) (hb : σ b = 20 + r) (hm : MapF w b md 2 (fun _ => Option.none)) :
    ∃ w', (Instr.mapUpdate 64 (.map (some B)) (.string (res r)) (.map (some b))).run Yba.prog w = .ok () w' ∧ QP σ w' B (fun j => if j = r then true else has j) (fun j => if j = r then b else bq j) qv qu ∧ w.grownBy w' (some B) := by
  obtain ⟨w', h1, h2, h3⟩ := h.map.put Yba.underlying9 resN Yba.underlying64 hr (.map (some b))
  exact ⟨w', h1, h.new hr hn hb hm h2 h3, h3⟩
theorem QP.delete {has : Nat → Bool} {bq qv qu} (h : QP σ w B has bq qv qu) {r : Nat} (hr : r < 3) (h0 : ∀ m, m < 2 → qu r m = []) (ty : TypeId) :
    ∃ w', (Builtin.delete_ #[64, 9] ty #[.map (some B), .string (res r)]).run Yba.prog w = .ok (.tuple #[]) w' ∧ QP σ w' B (fun j => if j = r then false else has j) bq qv qu ∧ w.grownBy w' (some B) := by
  obtain ⟨w', h1, h2, h3⟩ := h.map.drop Yba.underlying9 resN Yba.underlying64 hr 9 ty
  exact ⟨w', h1, h.drop h0 h2 h3, h3⟩
theorem QP.lookIn {has bq qv qu} (h : QP σ w B has bq qv qu) {r m : Nat} (hr : r < 3) (hm : m < 2) (hh : has r = true) : (Instr.lookup 75 (.map (some (bq r))) (.string (md m)) false).run Yba.prog w = .ok (qv r m) w := by
  have := (h.inner r hr hh).look Yba.underlying53 mdN Yba.underlying75 (Yba.zeroValue38 w) false hm
  rw [this, h.at hr hm]
  rfl
theorem QP.lookIn_ok {has bq qv qu} (h : QP σ w B has bq qv qu) {r m : Nat} (hr : r < 3) (hm : m < 2) (hh : has r = true) : (Instr.lookup 75 (.map (some (bq r))) (.string (md m)) true).run Yba.prog w = .ok (.tuple #[qv r m, .bool (decide (qu r m ≠ []))]) w := by
  have := (h.inner r hr hh).look Yba.underlying53 mdN Yba.underlying75 (Yba.zeroValue38 w) true hm
  rw [this, h.at hr hm]
  have e : (qmap qv qu r m).isSome = decide (qu r m ≠ []) := by
    unfold qmap
    split
    · simp [*]
    · simp [*]
  rw [e]
  rfl
theorem QP.storeIn {has : Nat → Bool} {bq qv qu} (h : QP σ w B has bq qv qu) {w1 : World} {r m : Nat} (hr : r < 3) (hm : m < 2) (hh : has r = true) (hs : Same σ (fun l => SQ l ∧ l ≠ 40 + 2 * r + m) w w1)
    {v : Value} {xs : List Int} (hx : xs ≠ []) (hsl : Sl w1 3 (fun g => σ g = 40 + 2 * r + m) v (ints xs)) :
    ∃ w', (Instr.mapUpdate 75 (.map (some (bq r))) (.string (md m)) v).run Yba.prog w1 = .ok () w' ∧ QP σ w' B has bq (fun r' m' => if r' = r ∧ m' = m then v else qv r' m') (fun r' m' => if r' = r ∧ m' = m then xs else qu r' m') ∧ w1.grownBy w' (some (bq r)) := by
  obtain ⟨w', h1, h2, h3⟩ := (h.inner_at hr hh hs).put Yba.underlying53 mdN Yba.underlying75 hm v
  exact ⟨w', h1, h.put hr hm hh hs hx hsl h2 h3, h3⟩
theorem QP.deleteIn {has : Nat → Bool} {bq qv qu} (h : QP σ w B has bq qv qu) {r m : Nat} (hr : r < 3) (hm : m < 2) (hh : has r = true) (ty : TypeId) :
    ∃ w', (Builtin.delete_ #[75, 53] ty #[.map (some (bq r)), .string (md m)]).run Yba.prog w = .ok (.tuple #[]) w' ∧
      QP σ w' B has bq (fun r' m' => if r' = r ∧ m' = m then .slice Option.none 0 0 else qv r' m') (fun r' m' => if r' = r ∧ m' = m then [] else qu r' m') ∧ w.grownBy w' (some (bq r)) := by
  obtain ⟨w', h1, h2, h3⟩ := (h.inner r hr hh).drop Yba.underlying53 mdN Yba.underlying75 hm 53 ty
  exact ⟨w', h1, h.del hr hh h2 h3, h3⟩
theorem QP.lenIn {has : Nat → Bool} {bq qv qu} (h : QP σ w B has bq qv qu) {r : Nat} (hr : r < 3) (hh : has r = true) (ty : TypeId) :
    (Builtin.len_ #[75] ty #[.map (some (bq r))]).run Yba.prog w = .ok (.int .i64 (cnt 2 (qmap qv qu r))) w := (h.inner r hr hh).len mdN Yba.underlying75 ty

theorem HP.look {has bh hold} (h : HP σ w B has bh hold) {r : Nat} (hr : r < 3) : (Instr.lookup 61 (.map (some B)) (.string (res r)) false).run Yba.prog w = .ok (if has r = true then .map (some (bh r)) else .map Option.none) w := by
  have := h.map.look Yba.underlying9 resN Yba.underlying61 (Yba.zeroValue72 w) false hr
  rw [this]
  cases has r <;> simp
theorem HP.look_ok {has bh hold} (h : HP σ w B has bh hold) {r : Nat} (hr : r < 3) : (Instr.lookup 61 (.map (some B)) (.string (res r)) true).run Yba.prog w = .ok (.tuple #[if has r = true then .map (some (bh r)) else .map Option.none, .bool (has r)]) w := by
  have := h.map.look Yba.underlying9 resN Yba.underlying61 (Yba.zeroValue72 w) true hr
  rw [this]
  cases has r <;> simp
theorem HP.store {has : Nat → Bool} {bh hold} (h : HP σ w B has bh hold) {r b : Nat} (hr : r < 3) (hn : has r = false) (hb : σ b = 10 + r) (hm : MapF w b tx 3 (fun _ => Option.none)) :
    ∃ w', (Instr.mapUpdate 61 (.map (some B)) (.string (res r)) (.map (some b))).run Yba.prog w = .ok () w' ∧ HP σ w' B (fun j => if j = r then true else has j) (fun j => if j = r then b else bh j) hold ∧ w.grownBy w' (some B) := by
  obtain ⟨w', h1, h2, h3⟩ := h.map.put Yba.underlying9 resN Yba.underlying61 hr (.map (some b))
  exact ⟨w', h1, h.new hr hn hb hm h2 h3, h3⟩
theorem HP.delete {has : Nat → Bool} {bh hold} (h : HP σ w B has bh hold) {r : Nat} (hr : r < 3) (h0 : ∀ t, t < 3 → hold r t = 0) (ty : TypeId) :
    ∃ w', (Builtin.delete_ #[61, 9] ty #[.map (some B), .string (res r)]).run Yba.prog w = .ok (.tuple #[]) w' ∧ HP σ w' B (fun j => if j = r then false else has j) bh hold ∧ w.grownBy w' (some B) := by
  obtain ⟨w', h1, h2, h3⟩ := h.map.drop Yba.underlying9 resN Yba.underlying61 hr 9 ty
  exact ⟨w', h1, h.drop h0 h2 h3, h3⟩
theorem HP.lookIn_ok {has bh hold} (h : HP σ w B has bh hold) {r t : Nat} (hr : r < 3) (ht : t < 3) (hh : has r = true) : (Instr.lookup 72 (.map (some (bh r))) (.string (tx t)) true).run Yba.prog w = .ok (.tuple #[if hold r t = 0 then .string { data := #[] } else .string (md (hold r t - 1)), .bool (decide (hold r t ≠ 0))]) w := by
  have := (h.inner r hr hh).look Yba.underlying9 txN Yba.underlying72 (Yba.zeroValue53 w) true ht
  rw [this]
  unfold hmap
  by_cases e : hold r t = 0 <;> simp [e]
theorem HP.storeIn {has : Nat → Bool} {bh hold} (h : HP σ w B has bh hold) {r t m : Nat} (hr : r < 3) (ht : t < 3) (hh : has r = true) :
    ∃ w', (Instr.mapUpdate 72 (.map (some (bh r))) (.string (tx t)) (.string (md m))).run Yba.prog w = .ok () w' ∧ HP σ w' B has bh (fun r' t' => if r' = r ∧ t' = t then m + 1 else hold r' t') ∧ w.grownBy w' (some (bh r)) := by
  obtain ⟨w', h1, h2, h3⟩ := (h.inner r hr hh).put Yba.underlying9 txN Yba.underlying72 ht (.string (md m))
  exact ⟨w', h1, h.turn hr hh (h2.congr fun j _ => by simp) h3, h3⟩
theorem HP.deleteIn {has : Nat → Bool} {bh hold} (h : HP σ w B has bh hold) {r t : Nat} (hr : r < 3) (ht : t < 3) (hh : has r = true) (ty : TypeId) :
    ∃ w', (Builtin.delete_ #[72, 9] ty #[.map (some (bh r)), .string (tx t)]).run Yba.prog w = .ok (.tuple #[]) w' ∧ HP σ w' B has bh (fun r' t' => if r' = r ∧ t' = t then 0 else hold r' t') ∧ w.grownBy w' (some (bh r)) := by
  obtain ⟨w', h1, h2, h3⟩ := (h.inner r hr hh).drop Yba.underlying9 txN Yba.underlying72 ht 9 ty
  exact ⟨w', h1, h.turn hr hh (h2.congr fun j _ => by simp) h3, h3⟩
theorem HP.lenIn {has : Nat → Bool} {bh hold} (h : HP σ w B has bh hold) {r : Nat} (hr : r < 3) (hh : has r = true) (ty : TypeId) :
    (Builtin.len_ #[72] ty #[.map (some (bh r))]).run Yba.prog w = .ok (.int .i64 (cnt 3 (hmap hold r))) w := (h.inner r hr hh).len txN Yba.underlying72 ty

theorem EP.look {hv held} (h : EP σ w B hv held) {t : Nat} (ht : t < 3) : (Instr.lookup 62 (.map (some B)) (.string (tx t)) false).run Yba.prog w = .ok (hv t) w := by
  have := h.map.look Yba.underlying9 txN Yba.underlying62 (Yba.zeroValue55 w) false ht
  rw [this, h.at ht]
  rfl
theorem EP.look_ok {hv held} (h : EP σ w B hv held) {t : Nat} (ht : t < 3) : (Instr.lookup 62 (.map (some B)) (.string (tx t)) true).run Yba.prog w = .ok (.tuple #[hv t, .bool (decide (held t ≠ []))]) w := by
  have := h.map.look Yba.underlying9 txN Yba.underlying62 (Yba.zeroValue55 w) true ht
  rw [this, h.at ht]
  have e : ((fun t => if held t = [] then none else some (hv t)) t).isSome = decide (held t ≠ []) := by
    dsimp only
    split
    · simp [*]
    · simp [*]
  rw [e]
  rfl
theorem EP.store {hv held} (h : EP σ w B hv held) {w1 : World} {t : Nat} (ht : t < 3) (hs : Same σ (fun l => SE l ∧ l ≠ 30 + t) w w1) {v : Value} {xs : List Nat} (hx : xs ≠ [])
    (hsl : Sl w1 9 (fun g => σ g = 30 + t) v (strs xs)) :
    ∃ w', (Instr.mapUpdate 62 (.map (some B)) (.string (tx t)) v).run Yba.prog w1 = .ok () w' ∧ EP σ w' B (fun j => if j = t then v else hv j) (fun j => if j = t then xs else held j) ∧ w1.grownBy w' (some B) := by
  obtain ⟨w', h1, h2, h3⟩ := (h.map.of_block (hs.block B h.map.lt ⟨by rw [h.lab]; exact .inl rfl, by rw [h.lab]; omega⟩)).put Yba.underlying9 txN Yba.underlying62 ht v
  exact ⟨w', h1, h.put hs hx hsl ht h2 h3, h3⟩
theorem EP.delete {hv held} (h : EP σ w B hv held) {t : Nat} (ht : t < 3) (ty : TypeId) :
    ∃ w', (Builtin.delete_ #[62, 9] ty #[.map (some B), .string (tx t)]).run Yba.prog w = .ok (.tuple #[]) w' ∧ EP σ w' B (fun j => if j = t then .slice none 0 0 else hv j) (fun j => if j = t then [] else held j) ∧ w.grownBy w' (some B) := by
  obtain ⟨w', h1, h2, h3⟩ := h.map.drop Yba.underlying9 txN Yba.underlying62 ht 9 ty
  exact ⟨w', h1, h.del h2 h3, h3⟩

end Go.Proofs.Ybulkatsw.Md
