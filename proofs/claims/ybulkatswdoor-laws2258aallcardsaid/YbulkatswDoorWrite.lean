import Derived.Test.YbulkatswDoorCopy
import Derived.Deep.QuietTactic
import Derived.BigQuiet
import Derived.Deep.RegionLaw
import Derived.Deep.DrawnRows
import Derived.Deep.AppendLies
namespace Go.Proofs.YbulkatswDoor.Dw
open Go.RowKit
set_option linter.unusedVariables false

/-- Below B, but for block wb, w' is as w was. -/
structure BelowBut (B wb : Nat) (w w' : World) : Prop where
  os : w'.os = w.os
  tape : w'.tape = w.tape
  output : w'.output = w.output
  size : w.heap.size ≤ w'.heap.size
  block : ∀ k, k < B → k ≠ wb → w'.heap[k]? = w.heap[k]?
theorem BelowBut.refl (B wb : Nat) (w : World) : BelowBut B wb w w := ⟨rfl, rfl, rfl, Nat.le_refl _, fun _ _ _ => rfl⟩
theorem BelowBut.trans {B wb : Nat} {a b c : World} (h : BelowBut B wb a b) (k : BelowBut B wb b c) : BelowBut B wb a c :=
  ⟨k.os.trans h.os, k.tape.trans h.tape, k.output.trans h.output, Nat.le_trans h.size k.size, fun i hi hw => (k.block i hi hw).trans (h.block i hi hw)⟩
theorem BelowBut.of_below {B wb : Nat} {w w' : World} (h : Below B w w') : BelowBut B wb w w' := ⟨h.os, h.tape, h.output, h.size, fun k hk _ => h.block k hk⟩
theorem BelowBut.below {B B' wb : Nat} {w w' : World} (h : BelowBut B wb w w') (hB : B' ≤ B) (hw : B' ≤ wb) : Below B' w w' := ⟨h.os, h.tape, h.output, h.size, fun k hk => h.block k (by omega) (by omega)⟩
theorem BelowBut.drewN {B wb : Nat} {w w' : World} (h : BelowBut B wb w w') (n : Nat) : BelowBut B wb w (w'.drewN n) := ⟨h.os, h.tape, h.output, h.size, h.block⟩

/-- The writer: its block wb; k writes so far; its log. -/
def St (w : World) (base wb k : Nat) (fv lv : Value) (lc : List Ch) : Prop :=
  w.heap[wb]? = some (.cells #[.slice none 0 0, .int .i64 (k : Int), lv, fv] 35 (0, 0)) ∧ w.ownsRow base 23 1 lv lc.length (vals lc) ∧ ∀ x ∈ lc, x.own w

theorem keeps5_set {w : World} {wb o : Nat} {c : Array Value} (h : w.heap[wb]? = some (.cells c 35 (0, 0))) (v : Value) : Keeps5 w (w.setCell ⟨wb, o, none⟩ v) := by
  intro j z hz
  by_cases e : j = wb
  · subst e
    rw [h] at hz
    injection hz with hz
    injection hz with _ hz
    exact absurd hz (by decide)
  · rw [Below.heap_setCell _ _ _ _ e]; exact hz

/-- 'w.k++'. -/
theorem St.count {w : World} {base wb k : Nat} {fv lv : Value} {lc : List Ch} (h : St w base wb k fv lv lc) (hwb : wb < base) :
    St (w.setCell ⟨wb, 1, none⟩ (.int .i64 ((k : Int) + 1))) base wb (k + 1) fv lv lc ∧ Keeps5 w (w.setCell ⟨wb, 1, none⟩ (.int .i64 ((k : Int) + 1))) ∧ BelowBut base wb w (w.setCell ⟨wb, 1, none⟩ (.int .i64 ((k : Int) + 1))) := by
  obtain ⟨h1, h2, h3⟩ := h
  have k5 := keeps5_set (o := 1) h1 (.int .i64 ((k : Int) + 1))
  refine ⟨⟨?_, ownsRow_setCell_below h2 hwb _, fun x hx => (h3 x hx).keep k5⟩, k5, rfl, rfl, rfl, by simp [World.setCell], fun j _ hj => Below.heap_setCell _ _ _ _ hj⟩
  rw [heap_setCell_same _ _ _ _ _ _ h1]
  rfl

theorem own_blk {w : World} {B : Nat} {e : TypeId} {s : Nat} {v : Value} {n : Nat} {xs : List Value} (h : w.ownsRow B e s v n xs) {g : Nat} (hg : v.ownBlock = some g) : ∃ c, w.heap[g]? = some (.cells c e (0, 0)) := by
  rcases h.2 with ⟨rfl, _⟩ | ⟨g', c, cur, rfl, _, hh, _⟩
  · simp [Value.ownBlock] at hg
  · simp [Value.ownBlock] at hg
    subst hg
    exact ⟨cur, hh⟩

theorem keeps5_grown {w w' : World} {row : Option Nat} (h : w.grownBy w' row) (hr : ∀ g, row = some g → ∃ c, w.heap[g]? = some (.cells c 23 (0, 0))) : Keeps5 w w' := by
  intro k x hx
  rw [h.block k (heap_lt hx) ?_]
  · exact hx
  · intro e
    obtain ⟨c, hc⟩ := hr k e.symm
    rw [hx] at hc
    injection hc with hc
    injection hc with _ hc
    exact absurd hc (by decide)

theorem own_below {w w' : World} {B : Nat} {e : TypeId} {s : Nat} {v : Value} {n : Nat} {xs : List Value} (h : w.ownsRow B e s v n xs) (hb : Below w.heap.size w w') : w'.ownsRow B e s v n xs :=
  h.kept (row := none) ⟨hb.os, hb.tape, hb.output, hb.size, fun k hk _ => hb.block k hk⟩ (by rcases hv : v.ownBlock with _ | g; exact .inl rfl; exact .inr (fun e => by cases e))

/-- 'w.log = append(w.log, clone(p))'. -/
theorem St.push {w w1 w2 : World} {base wb k : Nat} {fv lv : Value} {lc : List Ch} (h : St w base wb k fv lv lc) (hwb : wb < base) (hbase : base ≤ w.heap.size) (y : Ch) (hb : Below w.heap.size w w1) (hy : y.own w1) (o : Obj) (g c : Nat)
    (hg : (w1.alloc o).grownBy w2 lv.ownBlock) (ho : w2.ownsRow base 23 1 (.slice (some ⟨g, 0, none⟩) (lc.length + 1) c) (lc.length + 1) (vals lc ++ [y.val])) :
    St (w2.setCell ⟨wb, 2, none⟩ (.slice (some ⟨g, 0, none⟩) (lc.length + 1) c)) base wb k fv (.slice (some ⟨g, 0, none⟩) (lc.length + 1) c) (lc ++ [y]) ∧ BelowBut base wb w (w2.setCell ⟨wb, 2, none⟩ (.slice (some ⟨g, 0, none⟩) (lc.length + 1) c)) ∧
      w2.heap[wb]? = some (.cells #[.slice none 0 0, .int .i64 (k : Int), lv, fv] 35 (0, 0)) ∧ Keeps5 w (w2.setCell ⟨wb, 2, none⟩ (.slice (some ⟨g, 0, none⟩) (lc.length + 1) c)) := by
  obtain ⟨h1, h2, h3⟩ := h
  have s1 := hb.size
  have s2 := hg.size
  have o1 : w1.ownsRow base 23 1 lv lc.length (vals lc) := own_below h2 hb
  have o2 := o1.alloc o
  have hne : ∀ j, j < base → some j ≠ lv.ownBlock := fun j hj e => by have := (o1.lt j e.symm).1; omega
  have hW2 : ∀ j, j < base → w2.heap[j]? = w.heap[j]? := fun j hj => by
    rw [hg.block j (by simp; omega) (hne j hj), Below.heap_alloc _ _ _ (by omega), hb.block j (by omega)]
  have hw2 : w2.heap[wb]? = some (.cells #[.slice none 0 0, .int .i64 (k : Int), lv, fv] 35 (0, 0)) := by rw [hW2 wb hwb]; exact h1
  have k1 : Keeps5 w1 w2 := (Keeps5.below (w' := w1.alloc o) ((Below.refl _ _).alloc (Nat.le_refl _) _)).trans (keeps5_grown hg fun g hg => own_blk o2 hg)
  have k2 := keeps5_set (o := 2) hw2 (.slice (some ⟨g, 0, none⟩) (lc.length + 1) c)
  refine ⟨⟨?_, ?_, ?_⟩, ⟨?_, ?_, ?_, ?_, ?_⟩, hw2, ((Keeps5.below hb).trans k1).trans k2⟩
  · rw [heap_setCell_same _ _ _ _ _ _ hw2]; rfl
  · rw [vals_append, List.length_append]
    exact ownsRow_setCell_below ho hwb _
  · intro x hx
    rcases List.mem_append.1 hx with hx | hx
    · exact (((h3 x hx).keep (Keeps5.below hb)).keep k1).keep k2
    · simp at hx; subst hx; exact (hy.keep k1).keep k2
  · exact hg.os.trans hb.os
  · exact hg.tape.trans hb.tape
  · exact hg.output.trans hb.output
  · simp [World.setCell]; simp at s2; omega
  · intro j hj hjw
    rw [Below.heap_setCell _ _ _ _ hjw]
    exact hW2 j hj

theorem one_slice (a : Option Addr) (n c : Nat) : ∀ u ∈ [Value.slice a n c], u.oneCell' = true := by intro u hu; simp at hu; subst hu; rfl

attribute [local go_sem ↓] Go.wp_at_zero Go.wp_at_succ

/-- What a write says. -/
def WriteSaid (w w' : World) (base wb k n : Nat) (f : Nat → UInt8) (fv : Value) (lc : List Ch) (e : Ending) : Prop :=
  e = .returned (.tuple #[.int .i64 (n : Int), .nilIface]) ∧ ∃ lv' y, St w' base wb (k + 1) fv lv' (lc ++ [y]) ∧ y.n = n ∧ y.f = f ∧ BelowBut base wb w w' ∧ Keeps5 w w'

set_option maxHeartbeats 1600000 in
theorem write_any (base wb k : Nat) (a : Option Addr) (n c : Nat) (f : Nat → UInt8) (fv lv : Value) (lc : List Ch) (w : World) (hst : St w base wb k fv lv lc) (hch : Ch.own w ⟨a, n, c, f⟩) (hn : n ≤ 65536) (hk : k ≤ 4096) (hlc : lc.length ≤ 4096) (hwb : wb < base) (hbase : base ≤ w.heap.size) :
    Calls Ybad.prog 28 #[.pointer (some ⟨wb, 0, none⟩), .slice a n c] w fun e w' => WriteSaid w w' base wb k n f fv lc e := by
  have c0 : w.cell? ⟨wb, 0, none⟩ = some (.slice none 0 0) := by rw [cell_of_blk hst.1]; rfl
  have c1 : w.cell? ⟨wb, 1, none⟩ = some (.int .i64 (k : Int)) := by rw [cell_of_blk hst.1]; rfl
  have f1 : w.frozen? ⟨wb, 1, none⟩ = false := by simp [World.frozen?, hst.1]
  have HS := Hid.mk hst
  have HC := Hid.mk hch
  clear hst hch
  have hd : decide ((k : Int) < 0) = false := by simp
  have hd' : ¬ (k : Int) < 0 := by omega
  go_enter Ybad.func28, Ybad.ntmps28
  go_wp2
  go_quiet (fail)
  have HB0 : Hid (BelowBut base wb w (w.drewN nq)) := (BelowBut.refl _ _ _).drewN nq
  have HK0 : Hid (Keeps5 w (w.drewN nq)) := Keeps5.refl w
  have HS0 : Hid (St (w.drewN nq) base wb k fv lv lc) := HS.out
  have HC0 : Hid (Ch.own (w.drewN nq) ⟨a, n, c, f⟩) := HC.out
  have hsz0 : base ≤ (w.drewN nq).heap.size := hbase
  have d1 : (w.drewN nq).cell? ⟨wb, 1, none⟩ = some (.int .i64 (k : Int)) := c1
  have g1 : (w.drewN nq).frozen? ⟨wb, 1, none⟩ = false := f1
  clear c0 c1 f1 HS HC hbase
  generalize w.drewN nq = wq at *
  go_wp2
  obtain ⟨S1, K1, B1⟩ := HS0.out.count hwb
  have hsz1 : wq.heap.size ≤ (wq.setCell ⟨wb, 1, none⟩ (.int .i64 ((k : Int) + 1))).heap.size := B1.size
  have HC1 := Hid.mk (HC0.out.keep K1)
  have HK1 := Hid.mk (HK0.out.trans K1)
  have HB1 := Hid.mk (HB0.out.trans B1)
  clear d1 g1 hd HS0 HC0 K1 B1 HB0 HK0
  generalize wq.setCell ⟨wb, 1, none⟩ (.int .i64 ((k : Int) + 1)) = W1 at *
  have c2 : W1.cell? ⟨wb, 2, none⟩ = some lv := by rw [cell_of_blk S1.1]; rfl
  have f2 : W1.frozen? ⟨wb, 2, none⟩ = false := by simp [World.frozen?, S1.1]
  have HS1 := Hid.mk S1
  clear S1
  obtain ⟨i0, hi, hz0, hz1, hz2⟩ := info_parts info23
  have hsz2 : base ≤ W1.heap.size := by omega
  have HR : Hid (∀ w1 ya yc, Below W1.heap.size W1 w1 → Ch.own w1 ⟨ya, n, yc, f⟩ → ∀ o g cap w2, (w1.alloc o).grownBy w2 lv.ownBlock → w2.ownsRow base 23 1 (.slice (some ⟨g, 0, none⟩) (lc.length + 1) cap) (lc.length + 1) (vals lc ++ [.slice ya n yc]) →
      (w2.cell? ⟨wb, 2, none⟩ = some lv ∧ w2.frozen? ⟨wb, 2, none⟩ = false) ∧ ∃ y, St (w2.setCell ⟨wb, 2, none⟩ (.slice (some ⟨g, 0, none⟩) (lc.length + 1) cap)) base wb (k + 1) fv (.slice (some ⟨g, 0, none⟩) (lc.length + 1) cap) (lc ++ [y]) ∧ y.n = n ∧ y.f = f ∧
        BelowBut base wb w (w2.setCell ⟨wb, 2, none⟩ (.slice (some ⟨g, 0, none⟩) (lc.length + 1) cap)) ∧ Keeps5 w (w2.setCell ⟨wb, 2, none⟩ (.slice (some ⟨g, 0, none⟩) (lc.length + 1) cap))) := by
    intro w1 ya yc hb hy o g cap w2 hg ho
    obtain ⟨p1, p2, p3, p4⟩ := HS1.out.push hwb hsz2 ⟨ya, n, yc, f⟩ hb hy o g cap hg ho
    exact ⟨⟨by rw [cell_of_blk p3]; rfl, by simp [World.frozen?, p3]⟩, _, p1, rfl, rfl, HB1.out.trans p2, HK1.out.trans p4⟩
  have HO1 : Hid (∀ w1, Below W1.heap.size W1 w1 → w1.ownsRow base 23 1 lv lc.length (vals lc)) := fun w1 hb => own_below HS1.out.2.1 hb
  have hlt : wb < W1.heap.size := by omega
  go_region_law (first
      | (go_simp; go_at_call 7; (refine (clone_any a n c f _ ?_ hn).mono ?_; exact HC1.out.ok; rintro e w1 ⟨ya, yc, rfl, hy, hb0⟩; have hb : Below W1.heap.size W1 w1 := ⟨hb0.os, hb0.tape, hb0.output, hb0.size, hb0.block⟩; have t1 : w1.cell? ⟨wb, 2, none⟩ = some lv := (hb.cell (p := ⟨wb, 2, none⟩) hlt).trans c2; have hs1 := hb.size; have t2 : ∀ o, (w1.alloc o).cell? ⟨wb, 2, none⟩ = some lv := (fun o => (World.cell?_of_block (w := w1) (a := ⟨wb, 2, none⟩) (Below.heap_alloc w1 o wb (by omega))).trans t1); clear hb0))
      | (refine step_append_lies _ (by rfl) _ _ _ (by rfl) base 23 i0 (.slice none 0 0) 1 24 Ybad.underlying22 hi hz0 hz1 hz2 rfl (by omega) lv lc.length (vals lc) (by rfl) ((HO1.out _ (by assumption)).alloc _) ⟨_, 0, none⟩ 1 1 [_] (by rfl) rfl (World.news_of_block (heap_alloc_new _ _)) (one_slice _ _ _) (by omega) (by unfold maxLen; omega) (by omega) (by simp; omega) _ rfl ?_; intro g cap w2 hown2 hgrow2 hat hlt2; obtain ⟨⟨t3, t4⟩, HF⟩ := HR.out _ _ _ (by assumption) (by assumption) _ g cap w2 hgrow2 hown2))
  all_goals go_wp2
  all_goals go_ret2
  all_goals (obtain ⟨y, r1, r2, r3, r4, r5⟩ := HF; exact ⟨rfl, _, y, r1, r2, r3, r4, r5⟩)
end Go.Proofs.YbulkatswDoor.Dw
