import Derived.Test.YbulkatswNames
import Derived.Test.YbulkatswRow
import Derived.Test.YbulkatswState
/-!
The graph's memory, part by part. σ says of each block whose it is: blocks of different owners differ.
1: the graph's own cells; 2, 10 + r: the holders; 3, 30 + t: the held lists; 4: the waiting; 5, 20 + r, 40 + 2r + m: the queues; 6, 50 + 2r + m, 60 + t: the model.
-/
namespace Go.Proofs.Ybulkatsw.Md
open Go Go.RowKit Mf Rw

def reqV (x : Nat × Nat × Int) : Value := .agg #[.string (res x.1), .string (md x.2.1), .int .i64 x.2.2]
def strs (l : List Nat) : List Value := l.map (fun r => .string (res r))
def ints (l : List Int) : List Value := l.map (Value.int .i64)

theorem strs_length (l : List Nat) : (strs l).length = l.length := by simp [strs]
theorem ints_length (l : List Int) : (ints l).length = l.length := by simp [ints]
theorem strs_append (l : List Nat) (r : Nat) : strs (l ++ [r]) = strs l ++ [.string (res r)] := by simp [strs]
theorem ints_append (l : List Int) (r : Int) : ints (l ++ [r]) = ints l ++ [.int .i64 r] := by simp [ints]

/-- A cell holds v and may be written. -/
def Cell (w : World) (b o : Nat) (v : Value) : Prop := w.cell? ⟨b, o, none⟩ = some v ∧ w.frozen? ⟨b, o, none⟩ = false

theorem Cell.lt {w : World} {b o : Nat} {v : Value} (h : Cell w b o v) : b < w.heap.size := World.block_lt_of_cell? w _ h.1
theorem Cell.of_block {w w' : World} {b o : Nat} {v : Value} (h : Cell w b o v) (hb : w'.heap[b]? = w.heap[b]?) : Cell w' b o v :=
  ⟨(World.cell?_of_block hb).trans h.1, (World.frozen?_of_block hb).trans h.2⟩
theorem Cell.same {w : World} {b o : Nat} {v : Value} (h : Cell w b o v) (u : Value) : Cell (w.setCell ⟨b, o, none⟩ u) b o u :=
  ⟨World.cell?_setCell_same _ _ _ h.1, by rw [World.frozen?_setCell]; exact h.2⟩
theorem Cell.other {w : World} {b o : Nat} {v : Value} (h : Cell w b o v) (b' o' : Nat) (u : Value) (hne : b' ≠ b ∨ o' ≠ o) : Cell (w.setCell ⟨b', o', none⟩ u) b o v :=
  ⟨by rw [World.cell?_setCell_other _ _ _ _ (by intro e; injection e with e1 e2; omega)]; exact h.1, by rw [World.frozen?_setCell]; exact h.2⟩

/-- Of the blocks whose owner is in S none has turned. -/
structure Same (σ : Nat → Nat) (S : Nat → Prop) (w w' : World) : Prop where
  size : w.heap.size ≤ w'.heap.size
  block : ∀ b, b < w.heap.size → S (σ b) → w'.heap[b]? = w.heap[b]?

theorem Same.refl (σ : Nat → Nat) (S : Nat → Prop) (w : World) : Same σ S w w := ⟨Nat.le_refl _, fun _ _ _ => rfl⟩
theorem Same.of_grown {σ : Nat → Nat} {S : Nat → Prop} {w w' : World} {row : Option Nat} (hg : w.grownBy w' row) (h : ∀ b, row = some b → ¬ S (σ b)) : Same σ S w w' :=
  ⟨hg.size, fun b hb hS => hg.block b hb (fun e => h b e.symm hS)⟩
theorem Same.alloc (σ : Nat → Nat) (S : Nat → Prop) (w : World) (o : Obj) : Same σ S w (w.alloc o) := ⟨by simp, fun b hb _ => heap_alloc_old w o hb⟩
theorem Same.drew (σ : Nat → Nat) (S : Nat → Prop) (w : World) : Same σ S w w.drew := ⟨Nat.le_refl _, fun _ _ _ => rfl⟩
theorem Same.trans {σ : Nat → Nat} {S : Nat → Prop} {w w' w'' : World} (h : Same σ S w w') (h' : Same σ S w' w'') : Same σ S w w'' :=
  ⟨Nat.le_trans h.size h'.size, fun b hb hS => (h'.block b (Nat.lt_of_lt_of_le hb h.size) hS).trans (h.block b hb hS)⟩
theorem Same.mono {σ : Nat → Nat} {S S' : Nat → Prop} {w w' : World} (h : Same σ S w w') (hS : ∀ l, S' l → S l) : Same σ S' w w' :=
  ⟨h.size, fun b hb h' => h.block b hb (hS _ h')⟩
theorem Same.setCell (σ : Nat → Nat) (S : Nat → Prop) (w : World) (a : Addr) (v : Value) (h : ¬ S (σ a.block)) : Same σ S w (w.setCell a v) :=
  ⟨by simp, fun b _ hS => RowKit.Below.heap_setCell _ _ _ _ (fun e => h (by rw [← e]; exact hS))⟩
/-- The owners of the new blocks are told anew. -/
theorem Same.sig {σ σ' : Nat → Nat} {S : Nat → Prop} {w w' : World} (h : Same σ S w w') (hσ : ∀ b, b < w.heap.size → σ' b = σ b) : Same σ' S w w' :=
  ⟨h.size, fun b hb hS => h.block b hb (by rw [← hσ b hb]; exact hS)⟩

variable {σ σ' : Nat → Nat} {w w' : World} {B : Nat}

/-! ### the graph's own cells -/
structure GP (σ : Nat → Nat) (w : World) (G Bh Be Bw Bq : Nat) (n : Nat) : Prop where
  lab : σ G = 1
  h : Cell w G 1 (.map (some Bh))
  e : Cell w G 2 (.map (some Be))
  wt : Cell w G 3 (.map (some Bw))
  n : Cell w G 4 (.int .i64 n)
  q : Cell w G 5 (.map (some Bq))

theorem GP.kept {G Bh Be Bw Bq n : Nat} (h : GP σ w G Bh Be Bw Bq n) (hs : Same σ (· = 1) w w') : GP σ w' G Bh Be Bw Bq n := by
  have hb := hs.block G h.h.lt h.lab
  exact ⟨h.lab, h.h.of_block hb, h.e.of_block hb, h.wt.of_block hb, h.n.of_block hb, h.q.of_block hb⟩
theorem GP.sig {G Bh Be Bw Bq n : Nat} (h : GP σ w G Bh Be Bw Bq n) (hσ : ∀ b, b < w.heap.size → σ' b = σ b) : GP σ' w G Bh Be Bw Bq n :=
  ⟨(hσ G h.h.lt).trans h.lab, h.h, h.e, h.wt, h.n, h.q⟩
theorem GP.setN {G Bh Be Bw Bq n : Nat} (h : GP σ w G Bh Be Bw Bq n) (m : Nat) : GP σ (w.setCell ⟨G, 4, none⟩ (.int .i64 m)) G Bh Be Bw Bq m :=
  ⟨h.lab, h.h.other _ _ _ (.inr (by omega)), h.e.other _ _ _ (.inr (by omega)), h.wt.other _ _ _ (.inr (by omega)), h.n.same _, h.q.other _ _ _ (.inr (by omega))⟩

/-! ### the waiting -/
structure WP (σ : Nat → Nat) (w : World) (B : Nat) (wt : Nat → Option (Nat × Nat × Int)) : Prop where
  lab : σ B = 4
  map : MapF w B tx 3 (fun t => (wt t).map reqV)

theorem WP.kept {wt} (h : WP σ w B wt) (hs : Same σ (· = 4) w w') : WP σ w' B wt := ⟨h.lab, h.map.of_block (hs.block B h.map.lt h.lab)⟩
theorem WP.sig {wt} (h : WP σ w B wt) (hσ : ∀ b, b < w.heap.size → σ' b = σ b) : WP σ' w B wt := ⟨(hσ B h.map.lt).trans h.lab, h.map⟩
theorem WP.put {wt : Nat → Option (Nat × Nat × Int)} (h : WP σ w B wt) (t : Nat) (x : Nat × Nat × Int) (hp : MapF w' B tx 3 (fun j => if j = t then some (reqV x) else (wt j).map reqV)) : WP σ w' B (fun j => if j = t then some x else wt j) :=
  ⟨h.lab, hp.congr fun i _ => by split <;> rfl⟩
theorem WP.del {wt : Nat → Option (Nat × Nat × Int)} (h : WP σ w B wt) (t : Nat) (hp : MapF w' B tx 3 (fun j => if j = t then none else (wt j).map reqV)) : WP σ w' B (fun j => if j = t then none else wt j) :=
  ⟨h.lab, hp.congr fun i _ => by split <;> rfl⟩

/-! ### the held lists -/
def SE (l : Nat) : Prop := l = 3 ∨ (30 ≤ l ∧ l < 33)
structure EP (σ : Nat → Nat) (w : World) (B : Nat) (hv : Nat → Value) (held : Nat → List Nat) : Prop where
  lab : σ B = 3
  map : MapF w B tx 3 (fun t => if held t = [] then none else some (hv t))
  nil : ∀ t, t < 3 → held t = [] → hv t = .slice none 0 0
  vals : ∀ t, t < 3 → Sl w 9 (fun g => σ g = 30 + t) (hv t) (strs (held t))

theorem EP.kept {hv held} (h : EP σ w B hv held) (hs : Same σ SE w w') : EP σ w' B hv held :=
  ⟨h.lab, h.map.of_block (hs.block B h.map.lt (by rw [h.lab]; exact .inl rfl)), h.nil, fun t ht => (h.vals t ht).of_blocks fun g hg hl => hs.block g hg (by rw [hl]; exact .inr ⟨by omega, by omega⟩)⟩
theorem EP.sig {hv held} (h : EP σ w B hv held) (hσ : ∀ b, b < w.heap.size → σ' b = σ b) : EP σ' w B hv held :=
  ⟨(hσ B h.map.lt).trans h.lab, h.map, h.nil, fun t ht => (h.vals t ht).mono fun g hg hl => (hσ g hg).trans hl⟩
theorem EP.at {hv held} (h : EP σ w B hv held) {t : Nat} (ht : t < 3) : ((fun t => if held t = [] then none else some (hv t)) t).getD (.slice none 0 0) = hv t := by
  try dsimp only
  split
  · rw [h.nil t ht ‹_›]; rfl
  · rfl
/-- The list of t is another, and the map says so. -/
theorem EP.put {hv : Nat → Value} {held : Nat → List Nat} (h : EP σ w B hv held) {w1 : World} {t : Nat} (hs : Same σ (fun l => SE l ∧ l ≠ 30 + t) w w1) {v : Value} {xs : List Nat} (hx : xs ≠ [])
    (hsl : Sl w1 9 (fun g => σ g = 30 + t) v (strs xs)) (ht : t < 3) (hp : MapF w' B tx 3 (fun j => if j = t then some v else (fun t => if held t = [] then none else some (hv t)) j)) (hg : w1.grownBy w' (some B)) :
    EP σ w' B (fun j => if j = t then v else hv j) (fun j => if j = t then xs else held j) := by
  have hB : ∀ g k, σ g = 30 + k → some g ≠ some B := fun g k hl e => by cases e; have := h.lab; omega
  refine ⟨h.lab, hp.congr fun i _ => ?_, fun i hi he => ?_, fun i hi => ?_⟩
  · try dsimp only
    split
    · simp
    · simp
  · split at he
    · exact absurd he hx
    · rename_i hne
      try dsimp only
      rw [if_neg hne]
      exact h.nil i hi he
  · try dsimp only
    split
    · rename_i e
      subst e
      exact hsl.of_blocks fun g hg' hl => hg.block g hg' (hB g _ hl)
    · rename_i hne
      refine ((h.vals i hi).of_blocks fun g hg' hl => hs.block g hg' ⟨by rw [hl]; exact .inr ⟨by omega, by omega⟩, by rw [hl]; omega⟩).of_blocks fun g hg' hl => hg.block g hg' (hB g _ hl)
theorem EP.del {hv : Nat → Value} {held : Nat → List Nat} (h : EP σ w B hv held) {t : Nat} (hp : MapF w' B tx 3 (fun j => if j = t then none else (fun t => if held t = [] then none else some (hv t)) j)) (hg : w.grownBy w' (some B)) :
    EP σ w' B (fun j => if j = t then .slice none 0 0 else hv j) (fun j => if j = t then [] else held j) := by
  refine ⟨h.lab, hp.congr fun i _ => ?_, fun i hi he => ?_, fun i hi => ?_⟩
  · try dsimp only
    split <;> rfl
  · try dsimp only
    split
    · rfl
    · rename_i hne
      rw [if_neg hne] at he
      exact h.nil i hi he
  · try dsimp only
    split
    · exact Sl.nil _ _ _
    · exact (h.vals i hi).of_blocks fun g hg' hl => hg.block g hg' (fun e => by cases e; have := h.lab; omega)

/-! ### the holders -/
def SH (l : Nat) : Prop := l = 2 ∨ (10 ≤ l ∧ l < 13)
def hmap (hold : Nat → Nat → Nat) (r t : Nat) : Option Value := if hold r t = 0 then none else some (.string (md (hold r t - 1)))
structure HP (σ : Nat → Nat) (w : World) (B : Nat) (has : Nat → Bool) (bh : Nat → Nat) (hold : Nat → Nat → Nat) : Prop where
  lab : σ B = 2
  map : MapF w B res 3 (fun r => if has r = true then some (.map (some (bh r))) else none)
  labs : ∀ r, r < 3 → has r = true → σ (bh r) = 10 + r
  inner : ∀ r, r < 3 → has r = true → MapF w (bh r) tx 3 (hmap hold r)
  none : ∀ r, r < 3 → has r = false → ∀ t, t < 3 → hold r t = 0

theorem HP.kept {has bh hold} (h : HP σ w B has bh hold) (hs : Same σ SH w w') : HP σ w' B has bh hold :=
  ⟨h.lab, h.map.of_block (hs.block B h.map.lt (by rw [h.lab]; exact .inl rfl)), h.labs, fun r hr hh => (h.inner r hr hh).of_block (hs.block _ (h.inner r hr hh).lt (by rw [h.labs r hr hh]; exact .inr ⟨by omega, by omega⟩)), h.none⟩
theorem HP.sig {has bh hold} (h : HP σ w B has bh hold) (hσ : ∀ b, b < w.heap.size → σ' b = σ b) : HP σ' w B has bh hold :=
  ⟨(hσ B h.map.lt).trans h.lab, h.map, fun r hr hh => (hσ _ (h.inner r hr hh).lt).trans (h.labs r hr hh), h.inner, h.none⟩
/-- A new, empty map for r. -/
theorem HP.new {has : Nat → Bool} {bh : Nat → Nat} {hold : Nat → Nat → Nat} (h : HP σ w B has bh hold) {r b : Nat} (hr : r < 3) (hn : has r = false) (hb : σ b = 10 + r) (hm : MapF w b tx 3 (fun _ => Option.none))
    (hp : MapF w' B res 3 (fun j => if j = r then some (.map (some b)) else (fun r => if has r = true then some (Value.map (some (bh r))) else Option.none) j)) (hg : w.grownBy w' (some B)) :
    HP σ w' B (fun j => if j = r then true else has j) (fun j => if j = r then b else bh j) hold := by
  have hB : ∀ g k, σ g = 10 + k → some g ≠ some B := fun g k hl e => by cases e; have := h.lab; omega
  refine ⟨h.lab, hp.congr fun i _ => ?_, fun i hi hh => ?_, fun i hi hh => ?_, fun i hi hh t ht => ?_⟩
  · try dsimp only
    split
    · simp
    · rfl
  · try dsimp only
    split
    · rename_i e; subst e; exact hb
    · rename_i hne; rw [if_neg hne] at hh; exact h.labs i hi hh
  · try dsimp only
    split
    · rename_i e
      subst e
      refine (hm.congr fun t ht => ?_).of_block (hg.block b hm.lt (hB b _ hb))
      simp [hmap, h.none i hi hn t ht]
    · rename_i hne
      rw [if_neg hne] at hh
      exact (h.inner i hi hh).of_block (hg.block _ (h.inner i hi hh).lt (hB _ _ (h.labs i hi hh)))
  · try dsimp only at hh
    split at hh
    · cases hh
    · exact h.none i hi hh t ht
/-- One entry of r's map turns. -/
theorem HP.turn {has : Nat → Bool} {bh : Nat → Nat} {hold : Nat → Nat → Nat} (h : HP σ w B has bh hold) {r t x : Nat} (hr : r < 3) (hh : has r = true)
    (hp : MapF w' (bh r) tx 3 (fun j => if j = t then (if x = 0 then Option.none else some (.string (md (x - 1)))) else hmap hold r j)) (hg : w.grownBy w' (some (bh r))) :
    HP σ w' B has bh (fun r' t' => if r' = r ∧ t' = t then x else hold r' t') := by
  have lr := h.labs r hr hh
  refine ⟨h.lab, h.map.of_block (hg.block B h.map.lt (fun e => by cases e; have := h.lab; omega)), h.labs, fun i hi hi' => ?_, fun i hi hi' t' ht' => ?_⟩
  · by_cases e : i = r
    · subst e
      refine hp.congr fun j hj => ?_
      unfold hmap
      try dsimp only
      by_cases hj' : j = t
      · subst hj'
        simp
      · simp [hj']
    · refine ((h.inner i hi hi').of_block (hg.block _ (h.inner i hi hi').lt (fun e' => by have := h.labs i hi hi'; rw [Option.some.inj e'] at this; omega))).congr fun j hj => ?_
      unfold hmap
      try dsimp only
      simp [e]
  · have hne : ¬ (i = r ∧ t' = t) := fun e' => by rw [e'.1, hh] at hi'; cases hi'
    rw [if_neg hne]
    exact h.none i hi hi' t' ht'
/-- r's map, empty, goes. -/
theorem HP.drop {has : Nat → Bool} {bh : Nat → Nat} {hold : Nat → Nat → Nat} (h : HP σ w B has bh hold) {r : Nat} (h0 : ∀ t, t < 3 → hold r t = 0)
    (hp : MapF w' B res 3 (fun j => if j = r then Option.none else (fun r => if has r = true then some (Value.map (some (bh r))) else Option.none) j)) (hg : w.grownBy w' (some B)) :
    HP σ w' B (fun j => if j = r then false else has j) bh hold := by
  refine ⟨h.lab, hp.congr fun i _ => ?_, fun i hi hh => ?_, fun i hi hh => ?_, fun i hi hh t ht => ?_⟩
  · try dsimp only
    split
    · simp
    · rfl
  · try dsimp only at hh
    split at hh
    · cases hh
    · exact h.labs i hi hh
  · try dsimp only at hh
    split at hh
    · cases hh
    · exact (h.inner i hi hh).of_block (hg.block _ (h.inner i hi hh).lt (fun e' => by have := h.labs i hi hh; have := h.lab; cases e'; omega))
  · try dsimp only at hh
    split at hh
    · rename_i e; subst e; exact h0 t ht
    · exact h.none i hi hh t ht

/-! ### the queues -/
def SQ (l : Nat) : Prop := l = 5 ∨ (20 ≤ l ∧ l < 23) ∨ (40 ≤ l ∧ l < 46)
def qmap (qv : Nat → Nat → Value) (qu : Nat → Nat → List Int) (r m : Nat) : Option Value := if qu r m = [] then none else some (qv r m)
structure QP (σ : Nat → Nat) (w : World) (B : Nat) (has : Nat → Bool) (bq : Nat → Nat) (qv : Nat → Nat → Value) (qu : Nat → Nat → List Int) : Prop where
  lab : σ B = 5
  map : MapF w B res 3 (fun r => if has r = true then some (.map (some (bq r))) else none)
  labs : ∀ r, r < 3 → has r = true → σ (bq r) = 20 + r
  inner : ∀ r, r < 3 → has r = true → MapF w (bq r) md 2 (qmap qv qu r)
  none : ∀ r, r < 3 → has r = false → ∀ m, m < 2 → qu r m = []
  nil : ∀ r, r < 3 → ∀ m, m < 2 → qu r m = [] → qv r m = .slice Option.none 0 0
  vals : ∀ r, r < 3 → ∀ m, m < 2 → Sl w 3 (fun g => σ g = 40 + 2 * r + m) (qv r m) (ints (qu r m))

theorem QP.kept {has bq qv qu} (h : QP σ w B has bq qv qu) (hs : Same σ SQ w w') : QP σ w' B has bq qv qu :=
  ⟨h.lab, h.map.of_block (hs.block B h.map.lt (by rw [h.lab]; exact .inl rfl)), h.labs, fun r hr hh => (h.inner r hr hh).of_block (hs.block _ (h.inner r hr hh).lt (by rw [h.labs r hr hh]; exact .inr (.inl ⟨by omega, by omega⟩))), h.none, h.nil,
    fun r hr m hm => (h.vals r hr m hm).of_blocks fun g hg hl => hs.block g hg (by rw [hl]; exact .inr (.inr ⟨by omega, by omega⟩))⟩
theorem QP.sig {has bq qv qu} (h : QP σ w B has bq qv qu) (hσ : ∀ b, b < w.heap.size → σ' b = σ b) : QP σ' w B has bq qv qu :=
  ⟨(hσ B h.map.lt).trans h.lab, h.map, fun r hr hh => (hσ _ (h.inner r hr hh).lt).trans (h.labs r hr hh), h.inner, h.none, h.nil, fun r hr m hm => (h.vals r hr m hm).mono fun g hg hl => (hσ g hg).trans hl⟩
theorem QP.at {has bq qv qu} (h : QP σ w B has bq qv qu) {r m : Nat} (hr : r < 3) (hm : m < 2) : (qmap qv qu r m).getD (.slice Option.none 0 0) = qv r m := by
  unfold qmap
  split
  · rw [h.nil r hr m hm ‹_›]; rfl
  · rfl
/-- A new, empty map for r. -/
theorem QP.new {has : Nat → Bool} {bq : Nat → Nat} {qv : Nat → Nat → Value} {qu : Nat → Nat → List Int} (h : QP σ w B has bq qv qu) {r b : Nat} (hr : r < 3) (hn : has r = false) (hb : σ b = 20 + r) (hm : MapF w b md 2 (fun _ => Option.none))
    (hp : MapF w' B res 3 (fun j => if j = r then some (.map (some b)) else (fun r => if has r = true then some (Value.map (some (bq r))) else Option.none) j)) (hg : w.grownBy w' (some B)) :
    QP σ w' B (fun j => if j = r then true else has j) (fun j => if j = r then b else bq j) qv qu := by
  have hB : ∀ g k, σ g = 20 + k → some g ≠ some B := fun g k hl e => by cases e; have := h.lab; omega
  refine ⟨h.lab, hp.congr fun i _ => ?_, fun i hi hh => ?_, fun i hi hh => ?_, fun i hi hh t ht => ?_, h.nil, fun i hi m hm' => ?_⟩
  · try dsimp only
    split
    · simp
    · rfl
  · try dsimp only
    split
    · rename_i e; subst e; exact hb
    · rename_i hne; rw [if_neg hne] at hh; exact h.labs i hi hh
  · try dsimp only
    split
    · rename_i e
      subst e
      refine (hm.congr fun t ht => ?_).of_block (hg.block b hm.lt (hB b _ hb))
      simp [qmap, h.none i hi hn t ht]
    · rename_i hne
      rw [if_neg hne] at hh
      exact (h.inner i hi hh).of_block (hg.block _ (h.inner i hi hh).lt (hB _ _ (h.labs i hi hh)))
  · try dsimp only at hh
    split at hh
    · cases hh
    · exact h.none i hi hh t ht
  · exact (h.vals i hi m hm').of_blocks fun g hg' hl => hg.block g hg' (fun e => by cases e; have := h.lab; omega)
/-- The inner map of r, while the arrays of (r, m) turn. -/
theorem QP.inner_at {has bq qv qu} (h : QP σ w B has bq qv qu) {w1 : World} {r m : Nat} (hr : r < 3) (hh : has r = true) (hs : Same σ (fun l => SQ l ∧ l ≠ 40 + 2 * r + m) w w1) : MapF w1 (bq r) md 2 (qmap qv qu r) :=
  (h.inner r hr hh).of_block (hs.block _ (h.inner r hr hh).lt (by rw [h.labs r hr hh]; exact ⟨.inr (.inl ⟨by omega, by omega⟩), by omega⟩))
/-- The queue (r, m) is another, and r's map says so. -/
theorem QP.put {has : Nat → Bool} {bq : Nat → Nat} {qv : Nat → Nat → Value} {qu : Nat → Nat → List Int} (h : QP σ w B has bq qv qu) {w1 : World} {r m : Nat} (hr : r < 3) (hm : m < 2) (hh : has r = true) (hs : Same σ (fun l => SQ l ∧ l ≠ 40 + 2 * r + m) w w1)
    {v : Value} {xs : List Int} (hx : xs ≠ []) (hsl : Sl w1 3 (fun g => σ g = 40 + 2 * r + m) v (ints xs))
    (hp : MapF w' (bq r) md 2 (fun j => if j = m then some v else qmap qv qu r j)) (hg : w1.grownBy w' (some (bq r))) :
    QP σ w' B has bq (fun r' m' => if r' = r ∧ m' = m then v else qv r' m') (fun r' m' => if r' = r ∧ m' = m then xs else qu r' m') := by
  have lr := h.labs r hr hh
  have hsB : ∀ b, b < w.heap.size → (SQ (σ b) ∧ σ b ≠ 40 + 2 * r + m) → σ b ≠ 20 + r → w'.heap[b]? = w.heap[b]? := fun b hb h1 h2 =>
    (hg.block b (Nat.lt_of_lt_of_le hb hs.size) (fun e => by cases e; omega)).trans (hs.block b hb h1)
  refine ⟨h.lab, h.map.of_block (hsB B h.map.lt ⟨by rw [h.lab]; exact .inl rfl, by rw [h.lab]; omega⟩ (by rw [h.lab]; omega)), h.labs, fun i hi hi' => ?_, fun i hi hi' m' hm' => ?_, fun i hi m' hm' he => ?_, fun i hi m' hm' => ?_⟩
  · by_cases e : i = r
    · subst e
      refine hp.congr fun j hj => ?_
      unfold qmap
      try dsimp only
      by_cases hj' : j = m
      · subst hj'
        simp [hx]
      · simp [hj']
    · refine ((h.inner i hi hi').of_block (hsB _ (h.inner i hi hi').lt ⟨by rw [h.labs i hi hi']; exact .inr (.inl ⟨by omega, by omega⟩), by rw [h.labs i hi hi']; omega⟩ (by rw [h.labs i hi hi']; omega))).congr fun j hj => ?_
      unfold qmap
      try dsimp only
      simp [e]
  · have hne : ¬ (i = r ∧ m' = m) := fun e' => by rw [e'.1, hh] at hi'; cases hi'
    rw [if_neg hne]
    exact h.none i hi hi' m' hm'
  · try dsimp only at he ⊢
    split
    · rename_i e
      rw [if_pos e] at he
      exact absurd he hx
    · rename_i e
      rw [if_neg e] at he
      exact h.nil i hi m' hm' he
  · try dsimp only
    split
    · rename_i e
      obtain ⟨rfl, rfl⟩ := e
      exact hsl.of_blocks fun g hg' hl => hg.block g hg' (fun e => by cases e; omega)
    · rename_i e
      exact (h.vals i hi m' hm').of_blocks fun g hg' hl => hsB g hg' ⟨by rw [hl]; exact .inr (.inr ⟨by omega, by omega⟩), by rw [hl]; omega⟩ (by rw [hl]; omega)
/-- The queue (r, m) goes out of r's map. -/
theorem QP.del {has : Nat → Bool} {bq : Nat → Nat} {qv : Nat → Nat → Value} {qu : Nat → Nat → List Int} (h : QP σ w B has bq qv qu) {r m : Nat} (hr : r < 3) (hh : has r = true)
    (hp : MapF w' (bq r) md 2 (fun j => if j = m then Option.none else qmap qv qu r j)) (hg : w.grownBy w' (some (bq r))) :
    QP σ w' B has bq (fun r' m' => if r' = r ∧ m' = m then .slice Option.none 0 0 else qv r' m') (fun r' m' => if r' = r ∧ m' = m then [] else qu r' m') := by
  have lr := h.labs r hr hh
  refine ⟨h.lab, h.map.of_block (hg.block B h.map.lt (fun e => by cases e; have := h.lab; omega)), h.labs, fun i hi hi' => ?_, fun i hi hi' m' hm' => ?_, fun i hi m' hm' he => ?_, fun i hi m' hm' => ?_⟩
  · by_cases e : i = r
    · subst e
      refine hp.congr fun j hj => ?_
      unfold qmap
      try dsimp only
      by_cases hj' : j = m
      · subst hj'
        simp
      · simp [hj']
    · refine ((h.inner i hi hi').of_block (hg.block _ (h.inner i hi hi').lt (fun e' => by have := h.labs i hi hi'; rw [Option.some.inj e'] at this; omega))).congr fun j hj => ?_
      unfold qmap
      try dsimp only
      simp [e]
  · have hne : ¬ (i = r ∧ m' = m) := fun e' => by rw [e'.1, hh] at hi'; cases hi'
    rw [if_neg hne]
    exact h.none i hi hi' m' hm'
  · try dsimp only at he ⊢
    split
    · rfl
    · rename_i e
      rw [if_neg e] at he
      exact h.nil i hi m' hm' he
  · try dsimp only
    split
    · exact Sl.nil _ _ _
    · exact (h.vals i hi m' hm').of_blocks fun g hg' hl => hg.block g hg' (fun e' => by cases e'; omega)
/-- r's map, empty, goes. -/
theorem QP.drop {has : Nat → Bool} {bq : Nat → Nat} {qv : Nat → Nat → Value} {qu : Nat → Nat → List Int} (h : QP σ w B has bq qv qu) {r : Nat} (h0 : ∀ m, m < 2 → qu r m = [])
    (hp : MapF w' B res 3 (fun j => if j = r then Option.none else (fun r => if has r = true then some (Value.map (some (bq r))) else Option.none) j)) (hg : w.grownBy w' (some B)) :
    QP σ w' B (fun j => if j = r then false else has j) bq qv qu := by
  refine ⟨h.lab, hp.congr fun i _ => ?_, fun i hi hh => ?_, fun i hi hh => ?_, fun i hi hh t ht => ?_, h.nil, fun i hi m hm' => ?_⟩
  · try dsimp only
    split
    · simp
    · rfl
  · try dsimp only at hh
    split at hh
    · cases hh
    · exact h.labs i hi hh
  · try dsimp only at hh
    split at hh
    · cases hh
    · exact (h.inner i hi hh).of_block (hg.block _ (h.inner i hi hh).lt (fun e' => by have := h.labs i hi hh; have := h.lab; cases e'; omega))
  · try dsimp only at hh
    split at hh
    · rename_i e; subst e; exact h0 t ht
    · exact h.none i hi hh t ht
  · exact (h.vals i hi m hm').of_blocks fun g hg' hl => hg.block g hg' (fun e => by cases e; have := h.lab; omega)

end Go.Proofs.Ybulkatsw.Md
