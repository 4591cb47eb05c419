import Derived.Test.YbulkatumZero
namespace Go.Proofs.Ybulkatum.Ap
open Go.RowKit
set_option linter.unusedVariables false

theorem Cell.of_heap {w : World} {b : Nat} {A : Array Value} {t : TypeId} (h : w.heap[b]? = some (.cells A t (0, 0))) {o : Nat} {v : Value} (ho : A[o]? = some v) : Cell w b o v :=
  ⟨by rw [cell_of_row w b o A t (0, 0) h]; exact ho, by simp [World.frozen?, h]⟩

/-- Only block b has turned. -/
structure Touch (b : Nat) (w w' : World) : Prop where
  os : w'.os = w.os
  tape : w'.tape = w.tape
  output : w'.output = w.output
  size : w.heap.size ≤ w'.heap.size
  block : ∀ k, k < w.heap.size → k ≠ b → w'.heap[k]? = w.heap[k]?
theorem Touch.set (w : World) (b o : Nat) (v : Value) : Touch b w (w.setCell ⟨b, o, none⟩ v) := ⟨rfl, rfl, rfl, by simp, fun k _ hk => Below.heap_setCell _ _ _ _ hk⟩
theorem Touch.trans {b : Nat} {x y z : World} (h : Touch b x y) (k : Touch b y z) : Touch b x z :=
  ⟨k.os.trans h.os, k.tape.trans h.tape, k.output.trans h.output, Nat.le_trans h.size k.size, fun i hi hb => (k.block i (by have := h.size; omega) hb).trans (h.block i hi hb)⟩
theorem Touch.refl (b : Nat) (w : World) : Touch b w w := ⟨rfl, rfl, rfl, Nat.le_refl _, fun _ _ _ => rfl⟩
theorem Touch.sets (b : Nat) : ∀ (vs : List Value) (o : Nat) (w : World), Touch b w (w.setCells b o vs)
  | [], _, w => Touch.refl b w
  | v :: r, o, w => by rw [World.setCells]; exact (Touch.set w b o v).trans (Touch.sets b r (o + 1) _)
theorem Touch.below {b B : Nat} {a w w' : World} (h : Touch b w w') (k : Below B a w) (hb : B ≤ b) (hB : B ≤ w.heap.size) : Below B a w' :=
  k.trans ⟨h.os, h.tape, h.output, h.size, fun i hi => h.block i (by omega) (by omega)⟩
theorem Touch.cell {b : Nat} {w w' : World} (h : Touch b w w') {c o : Nat} {v : Value} (hc : Cell w c o v) (hne : c ≠ b) : Cell w' c o v := by
  have := h.block c hc.lt hne
  unfold Cell World.cell? World.frozen? at *
  simp only [this]
  exact hc
theorem Touch.range {b : Nat} {w w' : World} (h : Touch b w w') {c o : Nat} {cs : List Value} (hc : w.rangeAt c o cs) (hne : c ≠ b) : w'.rangeAt c o cs := fun j v hv => by
  have hj := hc j v hv
  have := h.block c (World.block_lt_of_cell? w _ hj) hne
  unfold World.cell? at *
  simp only [this]
  exact hj

/-- The built world on the way: WB: what was there, and the input's own variable. -/
structure Bx (WB W : World) (n k i : Nat) (I : Nat → Nat → UInt8) (R : Nat → Row) (S : Nat → Nat) (h t : Nat) : Prop where
  mem : Mem W n R S h t
  ids : Ids W (n + 6) i I
  ida : ∀ j, j < k → ∀ c, c < 16 → ∃ v, Cell W (n + 6) (j * 16 + c) v
  below : Below (n + 1) WB W
  size : n + 7 ≤ W.heap.size

theorem Bx.up {WB W W' : World} {n k i : Nat} {I : Nat → Nat → UInt8} {R : Nat → Row} {S : Nat → Nat} {h t : Nat} (b : Bx WB W n k i I R S h t) (u : Below W.heap.size W W') : Bx WB W' n k i I R S h t :=
  ⟨b.mem.keep (Keeps.below u), b.ids.keep (Keeps.below u), fun j hj c hc => (b.ida j hj c hc).imp fun _ => (Keeps.below u).1 _ _ _, b.below.trans (u.mono (by have := b.size; omega)), by have := b.size; have := u.size; omega⟩
theorem Bx.alloc {WB W : World} {n k i : Nat} {I : Nat → Nat → UInt8} {R : Nat → Row} {S : Nat → Nat} {h t : Nat} (b : Bx WB W n k i I R S h t) (o : Obj) : Bx WB (W.alloc o) n k i I R S h t :=
  b.up ((Below.refl _ _).alloc (Nat.le_refl _) _)
theorem Bx.touch {WB W W' : World} {n k i q : Nat} {I : Nat → Nat → UInt8} {R R' : Nat → Row} {S S' : Nat → Nat} {h t h' t' : Nat} (b : Bx WB W n k i I R S h t) (u : Touch q W W') (h1 : n + 1 ≤ q) (h2 : q ≤ n + 5) (m : Mem W' n R' S' h' t') : Bx WB W' n k i I R' S' h' t' :=
  ⟨m, fun j hj c hc => u.cell (b.ids j hj c hc) (by omega), fun j hj c hc => (b.ida j hj c hc).imp fun _ x => u.cell x (by omega), u.below b.below h1 (by have := b.size; omega), by have := b.size; have := u.size; omega⟩
theorem Bx.there {WB W : World} {n k i : Nat} {I : Nat → Nat → UInt8} {R : Nat → Row} {S : Nat → Nat} {h t : Nat} (b : Bx WB W n k i I R S h t) (j : Nat) (hj : j < k) : W.there (n + 6) (j * 16) 16 := fun c hc => by
  obtain ⟨v, hv⟩ := b.ida j hj c hc
  exact ⟨by rw [hv.1]; rfl, hv.2⟩
theorem Bx.setIds {WB W : World} {n k i : Nat} {I : Nat → Nat → UInt8} {R : Nat → Row} {S : Nat → Nat} {h t : Nat} (b : Bx WB W n k i I R S h t) (hi : i < k) : Bx WB (W.setCells (n + 6) (i * 16) (idList (I i))) n k (i + 1) I R S h t := by
  have u := Touch.sets (n + 6) (idList (I i)) (i * 16) W
  have hth := b.there i hi
  refine ⟨b.mem.keepsAt fun c o v hc x => u.cell x (by omega), fun j hj c hc => ?_, fun j hj c hc => ?_, u.below b.below (by omega) (by have := b.size; omega), by have := b.size; have := u.size; omega⟩
  · by_cases hji : j = i
    · subst hji
      refine ⟨?_, by rw [World.frozen?_setCells]; exact (hth c hc).2⟩
      have := World.rangeAt_setCells_same W (n + 6) (j * 16) (idList (I j)) (by rw [idList_length]; exact hth)
      exact this c _ (idList_get _ _ hc)
    · exact (b.ids j (by omega) c hc).others _ _ _ (by rw [idList_length]; omega)
  · obtain ⟨v, hv⟩ := b.ida j hj c hc
    have h1 := World.isSome_setCells (n + 6) (idList (I i)) (i * 16) W ⟨n + 6, j * 16 + c, none⟩ (by rw [hv.1]; rfl)
    obtain ⟨v', hv'⟩ := Option.isSome_iff_exists.1 h1
    exact ⟨v', hv', by rw [World.frozen?_setCells]; exact hv.2⟩

end Go.Proofs.Ybulkatum.Ap
