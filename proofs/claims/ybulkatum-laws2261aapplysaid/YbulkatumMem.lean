/-
  The memory of LawS2261AApply: the broker's blocks as this program lays them (block numbers from n on), and what a store, an alloc and a draw leave of it.
-/
import Derived.Deep.MidRow
import Derived.Below
namespace Go.Proofs.Ybulkatum.Ap
open Go.RowKit
set_option linter.unusedVariables false

theorem _root_.Go.RowKit.Hid.mk {p : Prop} (h : p) : Hid p := h

/-- A cell holds v and may be written. -/
def Cell (w : World) (b o : Nat) (v : Value) : Prop := w.cell? ⟨b, o, none⟩ = some v ∧ w.frozen? ⟨b, o, none⟩ = false
def Keeps (w w' : World) : Prop := (∀ b o v, Cell w b o v → Cell w' b o v) ∧ w.heap.size ≤ w'.heap.size

theorem Cell.lt {w : World} {b o : Nat} {v : Value} (h : Cell w b o v) : b < w.heap.size := World.block_lt_of_cell? w _ h.1
theorem Cell.alloc {w : World} {b o : Nat} {v : Value} (h : Cell w b o v) (ob : Obj) : Cell (w.alloc ob) b o v :=
  ⟨by rw [World.cell?_alloc_lt _ _ _ h.lt]; exact h.1, by rw [World.frozen?_alloc_past _ _ _ h.lt]; exact h.2⟩
theorem Cell.drew {w : World} {b o : Nat} {v : Value} (h : Cell w b o v) : Cell w.drew b o v := by simpa [Cell] using h
theorem Cell.same {w : World} {b o : Nat} {v : Value} (h : Cell w b o v) (u : Value) : Cell (w.setCell ⟨b, o, none⟩ u) b o u :=
  ⟨World.cell?_setCell_same _ _ _ h.1, by rw [World.frozen?_setCell]; exact h.2⟩
theorem Cell.other {w : World} {b o : Nat} {v : Value} (h : Cell w b o v) (b' o' : Nat) (u : Value) (hne : b' ≠ b ∨ o' ≠ o) : Cell (w.setCell ⟨b', o', none⟩ u) b o v :=
  ⟨by rw [World.cell?_setCell_other _ _ _ _ (by intro e; injection e with e1 e2; omega)]; exact h.1, by rw [World.frozen?_setCell]; exact h.2⟩
theorem Cell.others {w : World} {b o : Nat} {v : Value} (h : Cell w b o v) (b' o' : Nat) (vs : List Value) (hne : b' ≠ b ∨ o < o' ∨ o' + vs.length ≤ o) : Cell (w.setCells b' o' vs) b o v :=
  ⟨by
    rw [World.cell?_setCells_out]
    · exact h.1
    · intro e _
      simp only at e ⊢
      omega, by rw [World.frozen?_setCells]; exact h.2⟩

theorem Keeps.refl (w : World) : Keeps w w := ⟨fun _ _ _ h => h, Nat.le_refl _⟩
theorem Keeps.trans {a b c : World} (h : Keeps a b) (h' : Keeps b c) : Keeps a c := ⟨fun _ _ _ x => h'.1 _ _ _ (h.1 _ _ _ x), Nat.le_trans h.2 h'.2⟩
theorem Keeps.alloc {w w' : World} (h : Keeps w w') (ob : Obj) : Keeps w (w'.alloc ob) := ⟨fun _ _ _ x => (h.1 _ _ _ x).alloc ob, by have := h.2; simp; omega⟩
theorem Keeps.drew {w w' : World} (h : Keeps w w') : Keeps w w'.drew := ⟨fun _ _ _ x => (h.1 _ _ _ x).drew, by have := h.2; simpa using this⟩
theorem Keeps.below {w w' : World} (h : Below w.heap.size w w') : Keeps w w' := by
  refine ⟨fun b o v x => ?_, h.size⟩
  have := h.block b x.lt
  unfold Cell World.cell? World.frozen? at *
  simp only [this]
  exact x

/-- A row of the chunk: what may turn in it. -/
structure Row where
  id : Nat → UInt8
  en : Int
  chk : Int
  fl : Int
  pv : Nat
  nx : Nat

def Row.zero : Row := ⟨fun _ => 0, 0, 0, 0, 0, 0⟩

def rowCell (r : Row) (c : Nat) : Value :=
  if c < 16 then .int .u8 ((r.id c).toNat : Int) else if c < 32 then .int .u8 0 else if c = 34 then .int .i64 r.en else if c < 36 then .int .i64 0
  else if c = 38 then .int .u32 r.chk else if c < 43 then .int .u32 0 else if c = 43 then .int .u16 0 else if c = 44 then .int .u8 0
  else if c = 45 then .int .u8 r.fl else if c = 46 then .int .u32 (r.pv : Int) else .int .u32 (r.nx : Int)

structure Mem (w : World) (n : Nat) (R : Nat → Row) (S : Nat → Nat) (h t : Nat) : Prop where
  rows : ∀ i, i < 8 → ∀ c, c < 48 → Cell w (n + 3) (i * 48 + c) (rowCell (R i) c)
  slots : ∀ j, j < 16 → Cell w (n + 5) j (.int .u32 (S j : Int))
  hd : Cell w (n + 1) 2 (.int .u32 (h : Int))
  tl : Cell w (n + 1) 3 (.int .u32 (t : Int))
  c44 : Cell w (n + 2) 44 (.slice (some ⟨n + 4, 0, none⟩) 1 1)
  c47 : Cell w (n + 2) 47 (.slice (some ⟨n + 5, 0, none⟩) 16 16)
  c48 : ∃ x : Int, Cell w (n + 2) 48 (.int .i64 x)
  c52 : Cell w (n + 2) 52 (.slice (some ⟨n + 1, 0, none⟩) 1 1)
  c4 : Cell w (n + 4) 0 (.pointer (some ⟨n + 3, 0, none⟩))

theorem Mem.keep {w w' : World} {n : Nat} {R : Nat → Row} {S : Nat → Nat} {h t : Nat} (m : Mem w n R S h t) (k : Keeps w w') : Mem w' n R S h t :=
  ⟨fun i hi c hc => k.1 _ _ _ (m.rows i hi c hc), fun j hj => k.1 _ _ _ (m.slots j hj), k.1 _ _ _ m.hd, k.1 _ _ _ m.tl, k.1 _ _ _ m.c44, k.1 _ _ _ m.c47, m.c48.imp fun _ => k.1 _ _ _, k.1 _ _ _ m.c52, k.1 _ _ _ m.c4⟩

theorem Mem.keepsAt {w w' : World} {n : Nat} {R : Nat → Row} {S : Nat → Nat} {h t : Nat} (m : Mem w n R S h t) (k : ∀ b o v, b ≤ n + 5 → Cell w b o v → Cell w' b o v) : Mem w' n R S h t :=
  ⟨fun i hi c hc => k _ _ _ (by omega) (m.rows i hi c hc), fun j hj => k _ _ _ (by omega) (m.slots j hj), k _ _ _ (by omega) m.hd, k _ _ _ (by omega) m.tl, k _ _ _ (by omega) m.c44, k _ _ _ (by omega) m.c47, m.c48.imp fun _ => k _ _ _ (by omega), k _ _ _ (by omega) m.c52, k _ _ _ (by omega) m.c4⟩

/-- A store into one cell of a row. -/
theorem Mem.setRow {w : World} {n : Nat} {R R' : Nat → Row} {S : Nat → Nat} {h t : Nat} (m : Mem w n R S h t) (i c : Nat) (v : Value) (hi : i < 8) (hc : c < 48)
    (ho : ∀ j, j ≠ i → R' j = R j) (hs : ∀ c', c' < 48 → c' ≠ c → rowCell (R' i) c' = rowCell (R i) c') (hv : rowCell (R' i) c = v) : Mem (w.setCell ⟨n + 3, i * 48 + c, none⟩ v) n R' S h t := by
  refine ⟨fun j hj d hd => ?_, fun j hj => (m.slots j hj).other _ _ _ (by omega), m.hd.other _ _ _ (by omega), m.tl.other _ _ _ (by omega), m.c44.other _ _ _ (by omega), m.c47.other _ _ _ (by omega), m.c48.imp fun _ x => x.other _ _ _ (by omega), m.c52.other _ _ _ (by omega), m.c4.other _ _ _ (by omega)⟩
  by_cases hji : j = i
  · subst hji
    by_cases hdc : d = c
    · subst hdc
      rw [hv]
      exact (m.rows j hj d hd).same v
    · rw [hs d hd hdc]
      exact (m.rows j hj d hd).other _ _ _ (by omega)
  · rw [ho j hji]
    exact (m.rows j hj d hd).other _ _ _ (by omega)

/-- The id's store. -/
theorem Mem.setId {w : World} {n : Nat} {R R' : Nat → Row} {S : Nat → Nat} {h t : Nat} (m : Mem w n R S h t) (i : Nat) (vs : List Value) (hi : i < 8) (hl : vs.length = 16)
    (ho : ∀ j, j ≠ i → R' j = R j) (hs : ∀ c', 16 ≤ c' → rowCell (R' i) c' = rowCell (R i) c') (hv : ∀ c, c < 16 → vs[c]? = some (rowCell (R' i) c)) : Mem (w.setCells (n + 3) (i * 48) vs) n R' S h t := by
  refine ⟨fun j hj d hd => ?_, fun j hj => (m.slots j hj).others _ _ _ (by omega), m.hd.others _ _ _ (by omega), m.tl.others _ _ _ (by omega), m.c44.others _ _ _ (by omega), m.c47.others _ _ _ (by omega), m.c48.imp fun _ x => x.others _ _ _ (by omega), m.c52.others _ _ _ (by omega), m.c4.others _ _ _ (by omega)⟩
  by_cases hji : j = i
  · subst hji
    by_cases hdc : d < 16
    · refine ⟨?_, by rw [World.frozen?_setCells]; exact (m.rows j hj d hd).2⟩
      rw [World.cell?_setCells_in _ _ _ _ (fun q hq => by rw [(m.rows j hj q (by omega)).1]; rfl) d (by omega)]
      have := hv d hdc
      rw [List.getElem?_eq_getElem (by omega)] at this
      exact this
    · rw [hs d (by omega)]
      exact (m.rows j hj d hd).others _ _ _ (by omega)
  · rw [ho j hji]
    exact (m.rows j hj d hd).others _ _ _ (by omega)

theorem Mem.setSlot {w : World} {n : Nat} {R : Nat → Row} {S : Nat → Nat} {h t : Nat} (m : Mem w n R S h t) (p x : Nat) (hp : p < 16) : Mem (w.setCell ⟨n + 5, p, none⟩ (.int .u32 (x : Int))) n R (fun j => if j = p then x else S j) h t := by
  refine ⟨fun j hj d hd => (m.rows j hj d hd).other _ _ _ (by omega), fun j hj => ?_, m.hd.other _ _ _ (by omega), m.tl.other _ _ _ (by omega), m.c44.other _ _ _ (by omega), m.c47.other _ _ _ (by omega), m.c48.imp fun _ x => x.other _ _ _ (by omega), m.c52.other _ _ _ (by omega), m.c4.other _ _ _ (by omega)⟩
  by_cases hjp : j = p
  · subst hjp
    simp only [if_true]
    exact (m.slots j hj).same _
  · simp only [if_neg hjp]
    exact (m.slots j hj).other _ _ _ (by omega)

theorem Mem.setHd {w : World} {n : Nat} {R : Nat → Row} {S : Nat → Nat} {h t : Nat} (m : Mem w n R S h t) (x : Nat) : Mem (w.setCell ⟨n + 1, 2, none⟩ (.int .u32 (x : Int))) n R S x t :=
  ⟨fun j hj d hd => (m.rows j hj d hd).other _ _ _ (by omega), fun j hj => (m.slots j hj).other _ _ _ (by omega), m.hd.same _, m.tl.other _ _ _ (by omega), m.c44.other _ _ _ (by omega), m.c47.other _ _ _ (by omega), m.c48.imp fun _ x => x.other _ _ _ (by omega), m.c52.other _ _ _ (by omega), m.c4.other _ _ _ (by omega)⟩
theorem Mem.setTl {w : World} {n : Nat} {R : Nat → Row} {S : Nat → Nat} {h t : Nat} (m : Mem w n R S h t) (x : Nat) : Mem (w.setCell ⟨n + 1, 3, none⟩ (.int .u32 (x : Int))) n R S h x :=
  ⟨fun j hj d hd => (m.rows j hj d hd).other _ _ _ (by omega), fun j hj => (m.slots j hj).other _ _ _ (by omega), m.hd.other _ _ _ (by omega), m.tl.same _, m.c44.other _ _ _ (by omega), m.c47.other _ _ _ (by omega), m.c48.imp fun _ x => x.other _ _ _ (by omega), m.c52.other _ _ _ (by omega), m.c4.other _ _ _ (by omega)⟩
theorem Mem.setCount {w : World} {n : Nat} {R : Nat → Row} {S : Nat → Nat} {h t : Nat} (m : Mem w n R S h t) (x : Int) : Mem (w.setCell ⟨n + 2, 48, none⟩ (.int .i64 x)) n R S h t := by
  obtain ⟨y, hy⟩ := m.c48
  exact ⟨fun j hj d hd => (m.rows j hj d hd).other _ _ _ (by omega), fun j hj => (m.slots j hj).other _ _ _ (by omega), m.hd.other _ _ _ (by omega), m.tl.other _ _ _ (by omega), m.c44.other _ _ _ (by omega), m.c47.other _ _ _ (by omega), ⟨x, hy.same _⟩, m.c52.other _ _ _ (by omega), m.c4.other _ _ _ (by omega)⟩

/-- The IDs' own row (block n + 6). -/
def Ids (w : World) (b k : Nat) (I : Nat → Nat → UInt8) : Prop := ∀ i, i < k → ∀ c, c < 16 → Cell w b (i * 16 + c) (.int .u8 ((I i c).toNat : Int))
theorem Ids.keep {w w' : World} {b k : Nat} {I : Nat → Nat → UInt8} (m : Ids w b k I) (h : Keeps w w') : Ids w' b k I := fun i hi c hc => h.1 _ _ _ (m i hi c hc)

def idList (f : Nat → UInt8) : List Value := (List.range 16).map fun c => .int .u8 ((f c).toNat : Int)
theorem idList_length (f : Nat → UInt8) : (idList f).length = 16 := by simp [idList]
theorem idList_get (f : Nat → UInt8) (c : Nat) (h : c < 16) : (idList f)[c]? = some (.int .u8 ((f c).toNat : Int)) := by simp [idList, h]
theorem idList_one (f : Nat → UInt8) : ∀ v ∈ idList f, v.oneCell' = true := by
  intro v hv
  simp only [idList, List.mem_map] at hv
  obtain ⟨c, _, rfl⟩ := hv
  rfl

theorem Mem.idAt {w : World} {n : Nat} {R : Nat → Row} {S : Nat → Nat} {h t : Nat} (m : Mem w n R S h t) (i : Nat) (hi : i < 8) : w.rangeAt (n + 3) (i * 48) (idList (R i).id) := fun j v hv => by
  have hj : j < 16 := by have := (List.getElem?_eq_some_iff.1 hv).1; rw [idList_length] at this; exact this
  rw [idList_get _ _ hj] at hv
  have := (m.rows i hi j (by omega)).1
  rw [this, ← hv]
  simp [rowCell, hj]
theorem Ids.at {w : World} {b k : Nat} {I : Nat → Nat → UInt8} (m : Ids w b k I) (i : Nat) (hi : i < k) : w.rangeAt b (i * 16) (idList (I i)) := fun j v hv => by
  have hj : j < 16 := by have := (List.getElem?_eq_some_iff.1 hv).1; rw [idList_length] at this; exact this
  rw [idList_get _ _ hj] at hv
  rw [(m i hi j hj).1, ← hv]

end Go.Proofs.Ybulkatum.Ap
