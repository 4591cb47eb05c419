import Derived.Test.YbulkatswFollowing
namespace Go.Proofs.Ybulkatsw.Fo
open Go.RowKit
set_option linter.unusedVariables false

/-- What is known of the items. -/
def Items (w : World) (a : Option Addr) (n : Nat) (W : Nat → Bool) (L D : Nat → UInt8) : Prop :=
  n = 0 ∨ ∃ g o, a = some ⟨g, o, none⟩ ∧ ∀ i, i < n → w.cell? ⟨g, o + i * 3, none⟩ = some (.bool (W i)) ∧ w.cell? ⟨g, o + i * 3 + 1, none⟩ = some (.int .u8 ((L i).toNat : Int)) ∧ w.cell? ⟨g, o + i * 3 + 2, none⟩ = some (.int .u8 ((D i).toNat : Int))

/-- What holds at the head of the building loop. -/
def Built (w wr : World) (lv ev : Value) (k : Nat) (es : List (Nat × Bool)) : Prop :=
  es.length = k ∧ wr.ownsRow w.heap.size 23 1 lv k (ptrs (es.map (·.1))) ∧ wr.ownsRow w.heap.size 4 1 ev k (es.map fun p => .bool p.2) ∧ (∀ p ∈ es, ReqOk wr (w.heap.size + 1) p.1 p.2) ∧ Below w.heap.size w wr ∧
  w.heap.size + 4 ≤ wr.heap.size ∧ Blk wr (w.heap.size + 1) 110 ∧ Blk wr (w.heap.size + 3) 110

theorem built_start (w : World) (o1 o3 : Obj) (c2 c4 : Array Value) : Built w ((((w.alloc o1).alloc (.cells c2 110)).alloc o3).alloc (.cells c4 110)) (.slice none 0 0) (.slice none 0 0) 0 [] := by
  refine ⟨rfl, World.ownsRow_nil _ _ _ _, World.ownsRow_nil _ _ _ _, fun p hp => (by cases hp), ?_, by simp, ⟨c2, ?_⟩, ⟨c4, ?_⟩⟩
  · exact ((((Below.refl _ _).alloc (Nat.le_refl _) _).alloc (by simp) _).alloc (by simp; omega) _).alloc (by simp; omega) _
  · rw [Below.heap_alloc _ _ _ (by simp), Below.heap_alloc _ _ _ (by simp)]
    have := heap_alloc_new (w.alloc o1) (.cells c2 110)
    simpa using this
  · have := heap_alloc_new (((w.alloc o1).alloc (.cells c2 110)).alloc o3) (.cells c4 110)
    simpa using this

theorem own_shape {w : World} {B : Nat} {e : TypeId} {s : Nat} {v : Value} {n : Nat} {xs : List Value} (h : w.ownsRow B e s v n xs) (hn : 0 < n) : ∃ g c, v = .slice (some ⟨g, 0, none⟩) n c := by
  rcases h.2 with ⟨_, h⟩ | ⟨g, c, cur, hv, _⟩
  · omega
  · exact ⟨g, c, hv⟩

theorem Hid.mk {p : Prop} (h : p) : Hid p := h

theorem own_blk {w : World} {B : Nat} {e : TypeId} {s : Nat} {v : Value} {n : Nat} {xs : List Value} (h : w.ownsRow B e s v n xs) {g : Nat} (hg : v.ownBlock = some g) : Blk w g e := by
  rcases h.2 with ⟨rfl, _⟩ | ⟨g', c, cur, rfl, _, hh, _⟩
  · simp [Value.ownBlock] at hg
  · simp [Value.ownBlock] at hg
    subst hg
    exact ⟨cur, hh⟩

theorem own_apart {w : World} {B B' : Nat} {e e' : TypeId} {s s' : Nat} {v v' : Value} {n n' : Nat} {xs xs' : List Value} (h : w.ownsRow B e s v n xs) (h' : w.ownsRow B' e' s' v' n' xs') (he : e ≠ e') : v.ownBlock = none ∨ v.ownBlock ≠ v'.ownBlock := by
  rcases hv : v.ownBlock with _ | g
  · exact .inl rfl
  · refine .inr fun hv' => ?_
    obtain ⟨c, hc⟩ := own_blk h hv
    obtain ⟨c', hc'⟩ := own_blk h' hv'.symm
    rw [hc] at hc'
    injection hc' with hc'
    injection hc' with _ h2
    exact he h2

theorem own_below {w w' : World} {B : Nat} {e : TypeId} {s : Nat} {v : Value} {n : Nat} {xs : List Value} (h : w.ownsRow B e s v n xs) (hb : Below w.heap.size w w') : w'.ownsRow B e s v n xs :=
  h.kept (row := none) ⟨hb.os, hb.tape, hb.output, hb.size, fun k hk _ => hb.block k hk⟩ (by rcases hv : v.ownBlock with _ | g; exact .inl rfl; exact .inr (fun e => by cases e))

theorem Built.below {w wr wa : World} {lv ev : Value} {k : Nat} {es : List (Nat × Bool)} (h : Built w wr lv ev k es) (hb : Below wr.heap.size wr wa) : Built w wa lv ev k es := by
  obtain ⟨h1, h2, h3, h4, h5, h6, h7, h8⟩ := h
  exact ⟨h1, own_below h2 hb, own_below h3 hb, fun p hp => (h4 p hp).keep (KeepsT.below hb), h5.trans (hb.mono h5.size), Nat.le_trans h6 hb.size, h7.keep (KeepsT.below hb), h8.keep (KeepsT.below hb)⟩

/-- The row of the expectations is still owned behind the append to the list. -/
theorem Built.exp1 {w wa w1 : World} {lv ev : Value} {k : Nat} {es : List (Nat × Bool)} (h : Built w wa lv ev k es) (o1 : Obj) (hg1 : (wa.alloc o1).grownBy w1 lv.ownBlock) : w1.ownsRow w.heap.size 4 1 ev k (es.map fun p => .bool p.2) :=
  (h.2.2.1.alloc o1).kept hg1 (own_apart h.2.2.1 h.2.1 (by decide))

/-- ONE ENTRY MORE. -/
theorem Built.push {w wa w1 w2 : World} {lv lv' ev ev' : Value} {k p : Nat} {b : Bool} {es : List (Nat × Bool)} (h : Built w wa lv ev k es) (hr : ReqOk wa (w.heap.size + 1) p b) (o1 o2 : Obj)
    (ho1 : w1.ownsRow w.heap.size 23 1 lv' (k + 1) (ptrs (es.map (·.1)) ++ [.pointer (some ⟨p, 0, none⟩)])) (hg1 : (wa.alloc o1).grownBy w1 lv.ownBlock)
    (ho2 : w2.ownsRow w.heap.size 4 1 ev' (k + 1) ((es.map fun p => .bool p.2) ++ [.bool b])) (hg2 : (w1.alloc o2).grownBy w2 ev.ownBlock) : Built w w2 lv' ev' (k + 1) (es ++ [(p, b)]) := by
  have hE := h.exp1 o1 hg1
  obtain ⟨h1, h2, h3, h4, h5, h6, h7, h8⟩ := h
  have k1 : KeepsT wa w1 := (KeepsT.below (w' := wa.alloc o1) ((Below.refl _ _).alloc (Nat.le_refl _) _)).trans (KeepsT.grown hg1 fun g hg => ⟨23, own_blk (h2.alloc o1) hg, by decide⟩)
  have k2 : KeepsT w1 w2 := (KeepsT.below (w' := w1.alloc o2) ((Below.refl _ _).alloc (Nat.le_refl _) _)).trans (KeepsT.grown hg2 fun g hg => ⟨4, own_blk (hE.alloc o2) hg, by decide⟩)
  have kk := k1.trans k2
  have s1 : wa.heap.size ≤ w1.heap.size := by have := hg1.size; simp at this; omega
  have s2 : w1.heap.size ≤ w2.heap.size := by have := hg2.size; simp at this; omega
  have b1 : Below w.heap.size w w1 := (h5.alloc (by omega) o1).grown hg1 (by simp; omega) (fun g hg => (h2.lt g hg).1)
  have b2 : Below w.heap.size w w2 := (b1.alloc (by omega) o2).grown hg2 (by simp; omega) (fun g hg => (hE.lt g hg).1)
  refine ⟨by simp [h1], ?_, ?_, ?_, b2, by omega, h7.keep kk, h8.keep kk⟩
  · rw [List.map_append, ptrs_append]
    exact (ho1.alloc o2).kept hg2 (own_apart ho1 hE (by decide))
  · rw [List.map_append]
    exact ho2
  · intro q hq
    rcases List.mem_append.1 hq with hq | hq
    · exact (h4 q hq).keep kk
    · simp at hq
      subst hq
      exact hr.keep kk

theorem news1 (w : World) (I : Obj) (x : Value) (t : TypeId) : ∀ j u, [x][j]? = some u → ((w.alloc I).alloc (.cells #[x] t)).cell? ((⟨w.heap.size + 1, 0, none⟩ : Addr).add j) = some u := by
  have := cell_one_new (w.alloc I) x t
  simpa using this

end Go.Proofs.Ybulkatsw.Fo
