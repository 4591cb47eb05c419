import Derived.Test.YbulkatswMSteps
import Derived.Test.YbulkatswApply
/-!
Graph and model side by side, behind all events: nothing is written any more.
-/
namespace Go.Proofs.Ybulkatsw.Md
open Go Go.RowKit Mf Rw

structure All (σ : Nat → Nat) (w : World) (G M Bh Be Bw Bq : Nat) (hv : Nat → Value) (has : Nat → Bool) (bh : Nat → Nat) (hasq : Nat → Bool) (bq : Nat → Nat) (qv mq : Nat → Nat → Value) (mh : Nat → Value) (A : St) : Prop where
  g : GP σ w G Bh Be Bw Bq A.waits
  wp : WP σ w Bw A.wt
  ep : EP σ w Be hv A.held
  hp : HP σ w Bh has bh A.hold
  qp : QP σ w Bq hasq bq qv A.qu
  mp : MP σ w M mq mh A

/-- Nothing old has turned. -/
abbrev Grow (σ : Nat → Nat) (w w' : World) : Prop := Fr σ (fun _ => False) w w'

theorem Grow.cell {σ : Nat → Nat} {w w' : World} (f : Grow σ w w') {a : Addr} {v : Value} (h : w.cell? a = some v) : w'.cell? a = some v := (World.cell?_of_block (f.same.block a.block (World.block_lt_of_cell? w a h) (fun h => h))).trans h

variable {σ : Nat → Nat} {w w' : World} {G M Bh Be Bw Bq : Nat} {hv : Nat → Value} {has : Nat → Bool} {bh : Nat → Nat} {hasq : Nat → Bool} {bq : Nat → Nat} {qv mq : Nat → Nat → Value} {mh : Nat → Value} {A : St}

theorem All.grow (h : All σ w G M Bh Be Bw Bq hv has bh hasq bq qv mq mh A) (f : Grow σ w w') : All σ w' G M Bh Be Bw Bq hv has bh hasq bq qv mq mh A :=
  ⟨h.g.kept (f.keep fun _ _ h => h), h.wp.kept (f.keep fun _ _ h => h), h.ep.kept (f.keep fun _ _ h => h), h.hp.kept (f.keep fun _ _ h => h), h.qp.kept (f.keep fun _ _ h => h), h.mp.kept (f.keep fun _ _ h => h)⟩

/-- A wait, in one word for both cases. -/
structure Wt (x : Option (Nat × Nat × Int)) (b : Bool) (R Q O : Int) (s1 s2 : ByteArray) : Prop where
  some : b = x.isSome
  wc0 : wcell x 0 = .bool b
  wc1 : wcell x 1 = .int .i64 R
  wc2 : wcell x 2 = .int .i64 Q
  wc3 : wcell x 3 = .int .i64 O
  req : (x.map reqV).getD zreq = .agg #[.string s1, .string s2, .int .i64 O]
  on : b = true → ∃ r m : Nat, R = (r : Int) ∧ Q = (m : Int) ∧ s1 = res r ∧ s2 = md m

theorem Wt.get (x : Option (Nat × Nat × Int)) : ∃ b R Q O s1 s2, Wt x b R Q O s1 s2 := by
  cases x with
  | none => exact ⟨false, 0, 0, 0, { data := #[] }, { data := #[] }, rfl, rfl, rfl, rfl, rfl, rfl, fun h => by cases h⟩
  | some y => exact ⟨true, y.1, y.2.1, y.2.2, res y.1, md y.2.1, rfl, rfl, rfl, rfl, rfl, rfl, fun _ => ⟨y.1, y.2.1, rfl, rfl, rfl, rfl⟩⟩

/-- isWaiting, the world grown. -/
theorem isWaiting_grow (h : All σ w G M Bh Be Bw Bq hv has bh hasq bq qv mq mh A) {t : Nat} (ht : t < 3) {b : Bool} (hb : b = (A.wt t).isSome) :
    Calls Yba.prog 15 #[.pointer (some ⟨G, 0, none⟩), .string (tx t)] w fun e w' => e = .returned (.bool b) ∧ Grow σ w w' := by
  refine (isWaiting_in h.g h.wp ht).mono ?_
  rintro e w' ⟨rfl, o, rfl⟩
  exact ⟨by rw [hb], Fr.alloc _ _ _ _⟩

/-- slices.Equal of the two queues. -/
theorem equal_grow {v1 v2 : Value} {ok1 ok2 : Nat → Prop} {xs : List Int} (h1 : Sl w 3 ok1 v1 (ints xs)) (h2 : Sl w 3 ok2 v2 (ints xs)) (hl : xs.length ≤ 1024) (σ : Nat → Nat) :
    Calls Yba.prog 16 #[v1, v2] w fun e w' => e = .returned (.bool true) ∧ Grow σ w w' := by
  by_cases hx : xs = []
  · subst hx
    obtain ⟨a1, c1, e1, _, _⟩ := h1.shape
    obtain ⟨a2, c2, e2, _, _⟩ := h2.shape
    subst e1 e2
    refine (Yba.slices_Equal_int_empty a1 a2 c1 0 c2 w (by omega)).mono ?_
    rintro e w' ⟨rfl, rfl⟩
    exact ⟨rfl, Fr.refl _ _ _⟩
  · have hn : ints xs ≠ [] := by simpa [ints] using hx
    obtain ⟨g1, o1, c1, cur1, rfl, _, hg1, _, _, _, ht1⟩ := h1.pos hn
    obtain ⟨g2, o2, c2, cur2, rfl, _, hg2, _, _, _, ht2⟩ := h2.pos hn
    rw [ints_length] at ht1 ht2 ⊢
    have hc1 : ∀ j, j < xs.length → w.cell? ⟨g1, o1 + j, none⟩ = some (.int .i64 (xs.getD j 0)) := fun j hj => cell_in hg1 ht1 j _ (by simp [ints, List.getElem?_eq_getElem hj, List.getD_eq_getElem?_getD])
    have hc2 : ∀ j, j < xs.length → w.cell? ⟨g2, o2 + j, none⟩ = some (.int .i64 (xs.getD j 0)) := fun j hj => cell_in hg2 ht2 j _ (by simp [ints, List.getElem?_eq_getElem hj, List.getD_eq_getElem?_getD])
    refine (Yba.slices_Equal_int g1 o1 xs.length c1 g2 o2 xs.length c2 xs xs w (Nat.le_refl _) (Nat.le_refl _) (by omega) (by omega) hc1 hc2).mono ?_
    rintro e w' ⟨rfl, q, rfl⟩
    exact ⟨by simp, Fr.drewN _ _ _ _⟩

/-! The inner maps, or nil, in one word. -/
section
variable {B : Nat} {hold : Nat → Nat → Nat} {qu : Nat → Nat → List Int}

theorem HP.lookR (h : HP σ w B has bh hold) {r : Nat} (hr : r < 3) : (Instr.lookup 61 (.map (some B)) (.string (res r)) true).run Yba.prog w = .ok (.tuple #[hmapV has bh r, .bool (has r)]) w := h.look_ok hr
theorem HP.lenV (h : HP σ w B has bh hold) {r : Nat} (hr : r < 3) : (Builtin.len_ #[72] 3 #[hmapV has bh r]).run Yba.prog w = .ok (.int .i64 (cnt 3 (hmap hold r))) w := by
  by_cases hh : has r = true
  · unfold hmapV
    rw [if_pos hh]
    exact h.lenIn hr hh 3
  · have hh' : has r = false := by simpa using hh
    have h0 := h.none r hr hh'
    unfold hmapV
    rw [if_neg hh, cntH, h0 0 (by omega), h0 1 (by omega), h0 2 (by omega)]
    exact Maps.len_nil Yba.underlying72 3
theorem HP.lookV (h : HP σ w B has bh hold) {r t : Nat} (hr : r < 3) (ht : t < 3) : (Instr.lookup 72 (hmapV has bh r) (.string (tx t)) true).run Yba.prog w = .ok (.tuple #[if hold r t = 0 then .string { data := #[] } else .string (md (hold r t - 1)), .bool (decide (hold r t ≠ 0))]) w := by
  by_cases hh : has r = true
  · unfold hmapV
    rw [if_pos hh]
    exact h.lookIn_ok hr ht hh
  · have hh' : has r = false := by simpa using hh
    unfold hmapV
    rw [if_neg hh, h.none r hr hh' t ht]
    exact Maps.look_nil true (Maps.string_keyed Yba.underlying9) Yba.underlying72 (Yba.zeroValue53 w) (key_of Yba.underlying9 txN)

theorem QP.lookR (h : QP σ w B hasq bq qv qu) {r : Nat} (hr : r < 3) : (Instr.lookup 64 (.map (some B)) (.string (res r)) true).run Yba.prog w = .ok (.tuple #[hmapV hasq bq r, .bool (hasq r)]) w := h.look_ok hr
theorem QP.lenV (h : QP σ w B hasq bq qv qu) {r : Nat} (hr : r < 3) : (Builtin.len_ #[75] 3 #[hmapV hasq bq r]).run Yba.prog w = .ok (.int .i64 (cnt 2 (qmap qv qu r))) w := by
  by_cases hh : hasq r = true
  · unfold hmapV
    rw [if_pos hh]
    exact h.lenIn hr hh 3
  · have hh' : hasq r = false := by simpa using hh
    have h0 := h.none r hr hh'
    unfold hmapV
    rw [if_neg hh, cntQ, h0 0 (by omega), h0 1 (by omega)]
    exact Maps.len_nil Yba.underlying75 3
theorem QP.lookV (h : QP σ w B hasq bq qv qu) {r m : Nat} (hr : r < 3) (hm : m < 2) : (Instr.lookup 75 (hmapV hasq bq r) (.string (md m)) true).run Yba.prog w = .ok (.tuple #[qv r m, .bool (decide (qu r m ≠ []))]) w := by
  by_cases hh : hasq r = true
  · unfold hmapV
    rw [if_pos hh]
    exact h.lookIn_ok hr hm hh
  · have hh' : hasq r = false := by simpa using hh
    have h0 := h.none r hr hh' m hm
    unfold hmapV
    rw [if_neg hh, h.nil r hr m hm h0, h0]
    exact Maps.look_nil true (Maps.string_keyed Yba.underlying53) Yba.underlying75 (Yba.zeroValue38 w) (key_of Yba.underlying53 mdN)
end

end Go.Proofs.Ybulkatsw.Md
