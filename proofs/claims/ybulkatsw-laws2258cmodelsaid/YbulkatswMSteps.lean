import Derived.Test.YbulkatswMStop
/-!
The model's appends; counts on the way.
-/
namespace Go.Proofs.Ybulkatsw.Md
open Go Go.RowKit Mf Rw

theorem MC.congr {w : World} {M : Nat} {mq : Nat → Nat → Value} {mh : Nat → Value} {A A' : St} (h : MC w M mq mh A) (h1 : A'.wt = A.wt) (h2 : A'.hold = A.hold) (h3 : A'.held = A.held) (h4 : A'.waits = A.waits) : MC w M mq mh A' :=
  ⟨by rw [h1]; exact h.wt, h.q, by rw [h2]; exact h.h, h.e, by rw [h3]; exact h.on, by rw [h4]; exact h.n⟩

/-- 'm.queued[r][m] = append(m.queued[r][m], x)'. -/
theorem m_queue_step {σ : Nat → Nat} {W : World} {M : Nat} {mq : Nat → Nat → Value} {mh : Nat → Value} {A : St} (h : MP σ W M mq mh A) {r m : Nat} (hr : r < 3) (hm : m < 2) (hz : ∀ b, W.heap.size ≤ b → σ b = 0) (hlen : (A.qu r m).length ≤ 1024) (x : Int) (ty : TypeId) :
    ∃ a k c w1 σ', (Builtin.append_ #[38, 38] ty #[mq r m, .slice (some ⟨W.heap.size, 0, none⟩) 1 1]).run Yba.prog (W.alloc (.cells #[.int .i64 x] 3)).drew = .ok (.slice a k c) w1 ∧ (∀ b, b < W.heap.size → σ' b = σ b) ∧ (∀ b, w1.heap.size ≤ b → σ' b = 0) ∧
      MC w1 M mq mh A ∧ MP σ' (w1.setCell ⟨M, 12 + r * 2 + m, none⟩ (.slice a k c)) M (fun r' m' => if r' = r ∧ m' = m then .slice a k c else mq r' m') mh { A with qu := fun r' m' => if r' = r ∧ m' = m then A.qu r m ++ [x] else A.qu r' m' } ∧
      Fr σ' (· = 50 + 2 * r + m) W w1 := by
  obtain ⟨v', w1, σ', happ, a1, a2, a3, a4⟩ := append_ints (σ := σ) (l := 50 + 2 * r + m) ty (h.qs r hr m hm) x (by rw [ints_length]; exact hlen) hz
  rw [← ints_append] at a3
  obtain ⟨a, c, hv, _, _⟩ := a3.shape
  obtain ⟨k, hk⟩ : ∃ k, (ints (A.qu r m ++ [x])).length = k := ⟨_, rfl⟩
  rw [hk] at hv
  subst hv
  have h' := h.sig a1
  have lM := h'.lab
  have mc1 : MC w1 M mq mh A := h'.mc.of_block (a4.same.block M h'.mc.lt (by rw [lM]; omega))
  have ob : ∀ g, g ≠ M → (w1.setCell ⟨M, 12 + r * 2 + m, none⟩ (.slice a k c)).heap[g]? = w1.heap[g]? := fun g hg => RowKit.Below.heap_setCell _ _ _ _ hg
  refine ⟨a, k, c, w1, σ', happ, a1, a2, mc1, ⟨lM, mc1.setQ hr hm _ _, fun r' hr' m' hm' => ?_, fun t ht => ?_⟩, a4⟩
  · by_cases e : r' = r ∧ m' = m
    · obtain ⟨rfl, rfl⟩ := e
      simp only [and_self, if_true]
      exact a3.of_blocks fun g _ hl => ob g (fun e => by rw [e, lM] at hl; omega)
    · simp only [if_neg e]
      refine ((h'.qs r' hr' m' hm').of_blocks fun g hg hl => a4.same.block g hg (by rw [hl]; omega)).of_blocks fun g _ hl => ob g (fun e => by rw [e, lM] at hl; omega)
  · exact ((h'.es t ht).of_blocks fun g hg hl => a4.same.block g hg (by rw [hl]; omega)).of_blocks fun g _ hl => ob g (fun e => by rw [e, lM] at hl; omega)

/-- 'm.held[t] = append(m.held[t], r); m.heldOn[t] = true'. -/
theorem m_held_step {σ : Nat → Nat} {W : World} {M : Nat} {mq : Nat → Nat → Value} {mh : Nat → Value} {A : St} (h : MP σ W M mq mh A) {t : Nat} (ht : t < 3) (hz : ∀ b, W.heap.size ≤ b → σ b = 0) (hlen : (A.held t).length ≤ 1024) (r : Nat) (ty : TypeId) :
    ∃ a k c w1 σ', (Builtin.append_ #[38, 38] ty #[mh t, .slice (some ⟨W.heap.size, 0, none⟩) 1 1]).run Yba.prog (W.alloc (.cells #[.int .i64 (r : Int)] 3)).drew = .ok (.slice a k c) w1 ∧ (∀ b, b < W.heap.size → σ' b = σ b) ∧ (∀ b, w1.heap.size ≤ b → σ' b = 0) ∧
      MC w1 M mq mh A ∧ MP σ' ((w1.setCell ⟨M, 27 + t, none⟩ (.slice a k c)).setCell ⟨M, 30 + t, none⟩ (.bool true)) M mq (fun j => if j = t then .slice a k c else mh j) { A with held := fun j => if j = t then A.held t ++ [r] else A.held j } ∧
      Fr σ' (· = 60 + t) W w1 := by
  obtain ⟨v', w1, σ', happ, a1, a2, a3, a4⟩ := append_ints (σ := σ) (l := 60 + t) ty (h.es t ht) (r : Int) (by rw [ints_length]; simpa [nats] using hlen) hz
  have en : ints (nats (A.held t)) ++ [.int .i64 (r : Int)] = ints (nats (A.held t ++ [r])) := by simp [ints, nats]
  rw [en] at a3
  obtain ⟨a, c, hv, _, _⟩ := a3.shape
  obtain ⟨k, hk⟩ : ∃ k, (ints (nats (A.held t ++ [r]))).length = k := ⟨_, rfl⟩
  rw [hk] at hv
  subst hv
  have h' := h.sig a1
  have lM := h'.lab
  have mc1 : MC w1 M mq mh A := h'.mc.of_block (a4.same.block M h'.mc.lt (by rw [lM]; omega))
  have ob : ∀ g, g ≠ M → ((w1.setCell ⟨M, 27 + t, none⟩ (.slice a k c)).setCell ⟨M, 30 + t, none⟩ (.bool true)).heap[g]? = w1.heap[g]? := fun g hg => (RowKit.Below.heap_setCell _ _ _ _ hg).trans (RowKit.Below.heap_setCell _ _ _ _ hg)
  have mc2 := mc1.setE ht (.slice a k c) (A.held t ++ [r])
  have ed : decide (A.held t ++ [r] ≠ []) = true := by simp
  rw [ed] at mc2
  refine ⟨a, k, c, w1, σ', happ, a1, a2, mc1, ⟨lM, mc2, fun r' hr' m' hm' => ?_, fun t' ht' => ?_⟩, a4⟩
  · exact ((h'.qs r' hr' m' hm').of_blocks fun g hg hl => a4.same.block g hg (by rw [hl]; omega)).of_blocks fun g _ hl => ob g (fun e => by rw [e, lM] at hl; omega)
  · by_cases e : t' = t
    · subst e
      simp only [if_true]
      exact a3.of_blocks fun g _ hl => ob g (fun e => by rw [e, lM] at hl; omega)
    · simp only [if_neg e]
      exact ((h'.es t' ht').of_blocks fun g hg hl => a4.same.block g hg (by rw [hl]; omega)).of_blocks fun g _ hl => ob g (fun e => by rw [e, lM] at hl; omega)

/-- A store into the block M alone. -/
theorem MP.upon {σ : Nat → Nat} {W W' : World} {M : Nat} {mq : Nat → Nat → Value} {mh : Nat → Value} {A A' : St} (h : MP σ W M mq mh A) (mc : MC W' M mq mh A') (hg : W.grownBy W' (some M)) (hq : A'.qu = A.qu) (he : A'.held = A.held) : MP σ W' M mq mh A' := by
  refine ⟨h.lab, mc, fun r hr m hm => ?_, fun t ht => ?_⟩
  · rw [hq]
    exact (h.qs r hr m hm).of_blocks fun g hg' hl => hg.block g hg' (fun e => by cases e; have := h.lab; omega)
  · rw [he]
    exact (h.es t ht).of_blocks fun g hg' hl => hg.block g hg' (fun e => by cases e; have := h.lab; omega)

/-- 'm.held[t] = nil; m.heldOn[t] = false'. -/
theorem MP.free {σ : Nat → Nat} {W : World} {M : Nat} {mq : Nat → Nat → Value} {mh : Nat → Value} {A : St} (h : MP σ W M mq mh A) {t : Nat} (ht : t < 3) :
    MP σ ((W.setCell ⟨M, 27 + t, none⟩ (.slice none 0 0)).setCell ⟨M, 30 + t, none⟩ (.bool false)) M mq (fun j => if j = t then .slice none 0 0 else mh j) (A.free t) := by
  have ob : ∀ g, g ≠ M → ((W.setCell ⟨M, 27 + t, none⟩ (.slice none 0 0)).setCell ⟨M, 30 + t, none⟩ (.bool false)).heap[g]? = W.heap[g]? := fun g hg => (RowKit.Below.heap_setCell _ _ _ _ hg).trans (RowKit.Below.heap_setCell _ _ _ _ hg)
  have lM := h.lab
  refine ⟨lM, h.mc.setE ht (.slice none 0 0) [], fun r hr m hm => (h.qs r hr m hm).of_blocks fun g _ hl => ob g (fun e => by rw [e, lM] at hl; omega), fun t' ht' => ?_⟩
  unfold St.free
  by_cases e : t' = t
  · subst e
    simp only [if_true]
    exact Sl.nil _ _ _
  · simp only [if_neg e]
    exact (h.es t' ht').of_blocks fun g _ hl => ob g (fun e => by rw [e, lM] at hl; omega)

theorem cnt_succ (n : Nat) (f : Nat → Option Value) : cnt (n + 1) f = cnt n f + (if (f n).isSome = true then 1 else 0) := by
  unfold cnt
  rw [List.range_succ, List.filter_append, List.length_append]
  congr 1
  by_cases e : (f n).isSome = true
  · simp [e]
  · simp [e]
theorem cnt_zero (f : Nat → Option Value) : cnt 0 f = 0 := rfl
theorem cnt_le (n : Nat) (f : Nat → Option Value) : cnt n f ≤ n := by
  have := List.length_filter_le (fun i => (f i).isSome) (List.range n)
  simpa [cnt] using this

/-- The input. -/
def Items (w : World) (a : Option Addr) (len : Nat) (f : Nat → Nat → UInt8) : Prop :=
  len = 0 ∨ ∃ b off, a = some ⟨b, off, none⟩ ∧ ∀ i, i < len → ∀ c, c < 4 → w.cell? ⟨b, off + i * 4 + c, none⟩ = some (.int .u8 ((f i c).toNat : Int))

/-- Behind j events. -/
def LI (w : World) (G M j : Nat) (wr : World) : Prop :=
  ∃ σ A mq mh, Inv j A ∧ Gr σ wr G A ∧ MP σ wr M mq mh A ∧ (∀ b, wr.heap.size ≤ b → σ b = 0) ∧ (∀ b, b < w.heap.size → σ b = 0) ∧ Below w.heap.size w wr

/-- A step leaves what was there ahead of the call. -/
theorem Fr.below {σ : Nat → Nat} {L : Nat → Prop} {w wr w' : World} (hb : Below w.heap.size w wr) (h0 : ∀ b, b < w.heap.size → σ b = 0) (hL : ¬ L 0) (f : Fr σ L wr w') : Below w.heap.size w w' :=
  ⟨f.os.trans hb.os, f.tape.trans hb.tape, f.output.trans hb.output, Nat.le_trans hb.size f.size, fun b hb' => (f.same.block b (Nat.lt_of_lt_of_le hb' hb.size) (by rw [h0 b hb']; exact hL)).trans (hb.block b hb')⟩

def zeros34 : Array Value := #[.bool false, .int .i64 0, .int .i64 0, .int .i64 0, .bool false, .int .i64 0, .int .i64 0, .int .i64 0, .bool false, .int .i64 0, .int .i64 0, .int .i64 0,
  .slice none 0 0, .slice none 0 0, .slice none 0 0, .slice none 0 0, .slice none 0 0, .slice none 0 0, .int .i64 0, .int .i64 0, .int .i64 0, .int .i64 0, .int .i64 0, .int .i64 0, .int .i64 0, .int .i64 0, .int .i64 0,
  .slice none 0 0, .slice none 0 0, .slice none 0 0, .bool false, .bool false, .bool false, .int .i64 0]

theorem li_start {w w1 : World} {G : Nat} {σ : Nat → Nat} (h1 : ∀ b, b < w.heap.size → σ b = 0) (h2 : ∀ b, w1.heap.size ≤ b → σ b = 0) (hGr : Gr σ w1 G St.zero) (hFr : Fr σ (fun l => l ≠ 0) w w1) :
    LI w G w1.heap.size 0 (w1.alloc (.cells zeros34 46)) := by
  obtain ⟨σ', hσ'⟩ : ∃ σ' : Nat → Nat, σ' = fun b => if b = w1.heap.size then 6 else σ b := ⟨_, rfl⟩
  have ag : ∀ b, b < w1.heap.size → σ' b = σ b := fun b hb => by rw [hσ']; exact if_neg (by omega)
  have cl : ∀ j v, zeros34[j]? = some v → Cell (w1.alloc (.cells zeros34 46)) w1.heap.size j v := fun j v h => Cell.new w1 zeros34 46 j v h
  have hs := hFr.size
  have hb : Below w.heap.size w w1 := ⟨hFr.os, hFr.tape, hFr.output, hs, fun b hb => hFr.same.block b hb (by rw [h1 b hb]; simp)⟩
  refine ⟨σ', St.zero, fun _ _ => .slice none 0 0, fun _ => .slice none 0 0, Inv.zero, (hGr.sig ag).kept (Same.alloc _ _ _ _), ⟨by rw [hσ']; simp, ⟨?_, ?_, ?_, ?_, ?_, cl 33 _ rfl⟩, fun _ _ _ _ => Sl.nil _ _ _, fun _ _ => Sl.nil _ _ _⟩, fun b hb' => ?_, fun b hb' => (ag b (by omega)).trans (h1 b hb'), ⟨hb.os, hb.tape, hb.output, by simp; omega, fun b hb' => (heap_alloc_old w1 _ (by omega)).trans (hb.block b hb')⟩⟩
  · intro t ht c hc
    match t, ht, c, hc with
    | 0, _, 0, _ => exact cl _ _ rfl
    | 0, _, 1, _ => exact cl _ _ rfl
    | 0, _, 2, _ => exact cl _ _ rfl
    | 0, _, 3, _ => exact cl _ _ rfl
    | 1, _, 0, _ => exact cl _ _ rfl
    | 1, _, 1, _ => exact cl _ _ rfl
    | 1, _, 2, _ => exact cl _ _ rfl
    | 1, _, 3, _ => exact cl _ _ rfl
    | 2, _, 0, _ => exact cl _ _ rfl
    | 2, _, 1, _ => exact cl _ _ rfl
    | 2, _, 2, _ => exact cl _ _ rfl
    | 2, _, 3, _ => exact cl _ _ rfl
  · intro r hr m hm
    match r, hr, m, hm with
    | 0, _, 0, _ => exact cl _ _ rfl
    | 0, _, 1, _ => exact cl _ _ rfl
    | 1, _, 0, _ => exact cl _ _ rfl
    | 1, _, 1, _ => exact cl _ _ rfl
    | 2, _, 0, _ => exact cl _ _ rfl
    | 2, _, 1, _ => exact cl _ _ rfl
  · intro r hr t ht
    match r, hr, t, ht with
    | 0, _, 0, _ => exact cl _ _ rfl
    | 0, _, 1, _ => exact cl _ _ rfl
    | 0, _, 2, _ => exact cl _ _ rfl
    | 1, _, 0, _ => exact cl _ _ rfl
    | 1, _, 1, _ => exact cl _ _ rfl
    | 1, _, 2, _ => exact cl _ _ rfl
    | 2, _, 0, _ => exact cl _ _ rfl
    | 2, _, 1, _ => exact cl _ _ rfl
    | 2, _, 2, _ => exact cl _ _ rfl
  · intro t ht
    match t, ht with
    | 0, _ => exact cl _ _ rfl
    | 1, _ => exact cl _ _ rfl
    | 2, _ => exact cl _ _ rfl
  · intro t ht
    match t, ht with
    | 0, _ => exact cl _ _ rfl
    | 1, _ => exact cl _ _ rfl
    | 2, _ => exact cl _ _ rfl
  · simp at hb'
    rw [hσ']
    dsimp only
    rw [if_neg (by omega)]
    exact h2 b (by omega)

/-- The graph has taken the step to C; the model is still at A. -/
def Mid (w : World) (G M j : Nat) (σ : Nat → Nat) (mq : Nat → Nat → Value) (mh : Nat → Value) (A C : St) (wr : World) : Prop :=
  Inv j A ∧ Inv (j + 1) C ∧ Gr σ wr G C ∧ MP σ wr M mq mh A ∧ (∀ b, wr.heap.size ≤ b → σ b = 0) ∧ (∀ b, b < w.heap.size → σ b = 0) ∧ Below w.heap.size w wr

theorem mid_of {w wr w5 : World} {G M j : Nat} {σ : Nat → Nat} {mq : Nat → Nat → Value} {mh : Nat → Value} {A C : St} {o : Obj} (hI : Inv j A) (hC : Inv (j + 1) C) (hMP : MP σ wr M mq mh A) (h0 : ∀ b, b < w.heap.size → σ b = 0) (hB : Below w.heap.size w wr)
    (hA : ApPost σ (wr.alloc o) G C w5) : ∃ σ1, Mid w G M j σ1 mq mh A C w5 := by
  obtain ⟨σ1, ag, hz1, hGr1, fr1⟩ := hA
  have hs : wr.heap.size ≤ (wr.alloc o).heap.size := by simp
  have hBa : Below w.heap.size w (wr.alloc o) := ⟨hB.os, hB.tape, hB.output, Nat.le_trans hB.size hs, fun b hb => (heap_alloc_old wr o (Nat.lt_of_lt_of_le hb hB.size)).trans (hB.block b hb)⟩
  refine ⟨σ1, hI, hC, hGr1, ((hMP.kept (Same.alloc σ _ wr o)).sig ag).kept ((fr1.sig ag).keep (by unfold LM LG; omega)), hz1, fun b hb => (ag b ?_).trans (h0 b hb), fr1.below hBa h0 (by unfold LG; omega)⟩
  have := hBa.size
  omega

theorem li_end {w w5 w' : World} {G M j : Nat} {σ1 σ' : Nat → Nat} {mq mq' : Nat → Nat → Value} {mh mh' : Nat → Value} {A C : St} (h : Mid w G M j σ1 mq mh A C w5) (ag : ∀ b, b < w5.heap.size → σ' b = σ1 b) (hz : ∀ b, w'.heap.size ≤ b → σ' b = 0)
    (hM : MP σ' w' M mq' mh' C) (f : Fr σ1 LM w5 w') : LI w G M (j + 1) w' := by
  obtain ⟨h1, h2, h3, h4, h5, h6, h7⟩ := h
  refine ⟨σ', C, mq', mh', h2, (h3.sig ag).kept ((f.sig ag).keep (by unfold LM LG; omega)), hM, hz, fun b hb => (ag b ?_).trans (h6 b hb), f.below h7 h6 (by unfold LM; omega)⟩
  have := h7.size
  omega

theorem fr_store {σ : Nat → Nat} {W : World} {M o : Nat} (v : Value) (h : σ M = 6) : Fr σ (· = 6) W (W.setCell ⟨M, o, none⟩ v) := Fr.setCell _ _ _ _ _ h

end Go.Proofs.Ybulkatsw.Md
