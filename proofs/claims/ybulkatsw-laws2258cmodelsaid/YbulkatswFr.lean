import Derived.Test.YbulkatswRuns
import Derived.Deep.Draws
/-!
Frames: what a step leaves of the world; a variable's block; the owners' table beyond the heap.
-/
namespace Go.Proofs.Ybulkatsw.Md
open Go Go.RowKit Mf Rw

/-- The world is as it was but for the blocks of the owners in L, and new ones. -/
structure Fr (σ : Nat → Nat) (L : Nat → Prop) (w w' : World) : Prop where
  os : w'.os = w.os
  tape : w'.tape = w.tape
  output : w'.output = w.output
  same : Same σ (fun l => ¬ L l) w w'

variable {σ σ' : Nat → Nat} {L : Nat → Prop} {w w' w'' : World}

theorem Fr.refl (σ : Nat → Nat) (L : Nat → Prop) (w : World) : Fr σ L w w := ⟨rfl, rfl, rfl, Same.refl _ _ _⟩
theorem Fr.of_grown {row : Option Nat} (hg : w.grownBy w' row) (h : ∀ b, row = some b → L (σ b)) : Fr σ L w w' :=
  ⟨hg.os, hg.tape, hg.output, Same.of_grown hg fun b hb hn => hn (h b hb)⟩
theorem Fr.alloc (σ : Nat → Nat) (L : Nat → Prop) (w : World) (o : Obj) : Fr σ L w (w.alloc o) := ⟨rfl, rfl, rfl, Same.alloc _ _ _ _⟩
theorem Fr.drew (σ : Nat → Nat) (L : Nat → Prop) (w : World) : Fr σ L w w.drew := ⟨rfl, rfl, rfl, Same.drew _ _ _⟩
theorem Fr.drewN (σ : Nat → Nat) (L : Nat → Prop) (w : World) (q : Nat) : Fr σ L w (w.drewN q) := ⟨rfl, rfl, rfl, Nat.le_refl _, fun _ _ _ => rfl⟩
theorem Fr.setCell (σ : Nat → Nat) (L : Nat → Prop) (w : World) (a : Addr) (v : Value) (h : L (σ a.block)) : Fr σ L w (w.setCell a v) := by
  refine ⟨?_, ?_, ?_, Same.setCell _ _ _ _ _ (fun hn => hn h)⟩ <;> (unfold World.setCell; split <;> rfl)
theorem Fr.trans (h : Fr σ L w w') (h' : Fr σ L w' w'') : Fr σ L w w'' := ⟨h'.os.trans h.os, h'.tape.trans h.tape, h'.output.trans h.output, h.same.trans h'.same⟩
theorem Fr.mono {L' : Nat → Prop} (h : Fr σ L w w') (hL : ∀ l, L l → L' l) : Fr σ L' w w' := ⟨h.os, h.tape, h.output, h.same.mono fun l hn hl => hn (hL l hl)⟩
theorem Fr.sig (h : Fr σ L w w') (hσ : ∀ b, b < w.heap.size → σ' b = σ b) : Fr σ' L w w' := ⟨h.os, h.tape, h.output, h.same.sig hσ⟩
theorem Fr.keep {S : Nat → Prop} (h : Fr σ L w w') (hS : ∀ l, S l → ¬ L l) : Same σ S w w' := h.same.mono hS
/-- A step whose owners' table is another beyond the first world. -/
theorem Fr.cons {L' : Nat → Prop} (h : Fr σ L w w') (h' : Fr σ' L' w' w'') (hσ : ∀ b, b < w.heap.size → σ' b = σ b) (hL : ∀ l, L' l → L l) : Fr σ L w w'' :=
  ⟨h'.os.trans h.os, h'.tape.trans h.tape, h'.output.trans h.output, Nat.le_trans h.same.size h'.same.size, fun b hb hn =>
    (h'.same.block b (Nat.lt_of_lt_of_le hb h.same.size) (fun hl => hn (hL _ (by rw [← hσ b hb]; exact hl)))).trans (h.same.block b hb hn)⟩
theorem Fr.size (h : Fr σ L w w') : w.heap.size ≤ w'.heap.size := h.same.size

/-- A block of owner 0 is as it was. -/
theorem Cell.keep {b o : Nat} {v : Value} (h : Cell w b o v) (hf : Fr σ L w w') (hl : ¬ L (σ b)) : Cell w' b o v := h.of_block (hf.same.block b h.lt hl)

/-- The cells of a new block. -/
theorem Cell.new (w : World) (cs : Array Value) (t : TypeId) (j : Nat) (v : Value) (h : cs[j]? = some v) : Cell (w.alloc (.cells cs t)) w.heap.size j v := by
  have hb : (w.alloc (.cells cs t)).heap[w.heap.size]? = some (.cells cs t (0, 0)) := Go.heap_alloc_new w _
  exact ⟨by rw [cell_of_row _ _ _ _ _ _ hb]; exact h, frozen_in hb j⟩

end Go.Proofs.Ybulkatsw.Md
