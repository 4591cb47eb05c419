import Derived.Test.YbulkatswDoorProg
import Derived.WalkKit
import Derived.WalkSpells
import Derived.WalkLawsBesides
import Derived.Laws.CopyOwn
import Derived.OwnWalk
import Derived.Lib.EndianZ
import Derived.Lib.SliceRun
import Derived.Shelf.Bytes.SlEqualAll
namespace Go.Proofs.YbulkatswDoor.Dw
open Go.RowKit
set_option linter.unusedVariables false

theorem Hid.mk {p : Prop} (h : p) : Hid p := h

/-- A slice of bytes: where it lies, its length and capacity, its bytes. -/
structure Ch where
  a : Option Addr
  n : Nat
  c : Nat
  f : Nat → UInt8
def Ch.val (x : Ch) : Value := .slice x.a x.n x.c

/-- The cells of n bytes. -/
def bcells (f : Nat → UInt8) (n : Nat) : List Value := (List.range n).map fun i => .int .u8 ((f i).toNat : Int)
theorem bcells_length (f : Nat → UInt8) (n : Nat) : (bcells f n).length = n := by simp [bcells]
theorem bcells_at (f : Nat → UInt8) (n j : Nat) (h : j < n) : (bcells f n)[j]? = some (.int .u8 ((f j).toNat : Int)) := by simp [bcells, h]
theorem bcells_one (f : Nat → UInt8) (n : Nat) : ∀ v ∈ bcells f n, v.oneCell' = true := by
  intro v hv
  obtain ⟨i, _, rfl⟩ := List.mem_map.1 hv
  rfl

/-- What is known of a slice of bytes. -/
def Ch.ok (w : World) (x : Ch) : Prop :=
  (x.n = 0 ∨ ∃ g o, x.a = some ⟨g, o, none⟩ ∧ ∀ i, i < x.n → w.cell? ⟨g, o + i, none⟩ = some (.int .u8 ((x.f i).toNat : Int))) ∧ x.n ≤ x.c ∧ (x.a = none → x.n = 0 ∧ x.c = 0)

theorem cell_block {w : World} {p : Addr} {v : Value} (h : w.cell? p = some v) : p.block < w.heap.size := by
  rcases Nat.lt_or_ge p.block w.heap.size with h1 | h1
  · exact h1
  · have : w.heap[p.block]? = none := by simp [h1]
    simp [World.cell?, this] at h

theorem heap_lt {w : World} {k : Nat} {o : Obj} (h : w.heap[k]? = some o) : k < w.heap.size := (Array.getElem?_eq_some_iff.1 h).1
theorem cell_of_blk {w : World} {g o : Nat} {c : Array Value} {t : TypeId} (h : w.heap[g]? = some (.cells c t (0, 0))) : w.cell? ⟨g, o, none⟩ = c[o]? := by simp [World.cell?, h]

theorem Ch.ok.below {w w' : World} {x : Ch} (h : x.ok w) (hb : Below w.heap.size w w') : x.ok w' := by
  obtain ⟨h, h2⟩ := h
  refine ⟨?_, h2⟩
  rcases h with h | ⟨g, o, e, hc⟩
  · exact .inl h
  · refine .inr ⟨g, o, e, fun i hi => ?_⟩
    rw [hb.cell (cell_block (hc i hi))]
    exact hc i hi

/-- A clone: nil, or a row of its own. -/
def Ch.own (w : World) (x : Ch) : Prop :=
  (x.a = none ∧ x.n = 0 ∧ x.c = 0) ∨ ∃ g, x.a = some ⟨g, 0, none⟩ ∧ x.c = x.n ∧ w.heap[g]? = some (.cells (bcells x.f x.n).toArray 5 (0, 0))

theorem Ch.own.ok {w : World} {x : Ch} (h : x.own w) : x.ok w := by
  rcases h with ⟨h1, h2, h3⟩ | ⟨g, h1, h2, h3⟩
  · exact ⟨.inl h2, by omega, fun _ => ⟨h2, h3⟩⟩
  · refine ⟨.inr ⟨g, 0, h1, fun i hi => ?_⟩, by omega, fun e => by rw [h1] at e; cases e⟩
    rw [Nat.zero_add, cell_of_blk h3]
    have := bcells_at x.f x.n i hi
    simpa using this

/-- The blocks of bytes are as they were. -/
def Keeps5 (w w' : World) : Prop := ∀ (k : Nat) (x : Array Value), w.heap[k]? = some (.cells x 5 (0, 0)) → w'.heap[k]? = some (.cells x 5 (0, 0))
theorem Keeps5.refl (w : World) : Keeps5 w w := fun _ _ h => h
theorem Keeps5.trans {a b c : World} (h : Keeps5 a b) (k : Keeps5 b c) : Keeps5 a c := fun i x hx => k i x (h i x hx)
theorem Keeps5.below {w w' : World} (h : Below w.heap.size w w') : Keeps5 w w' := fun k x hx => by rw [h.block k (heap_lt hx)]; exact hx
theorem Ch.own.keep {w w' : World} {x : Ch} (h : x.own w) (hk : Keeps5 w w') : x.own w' := by
  rcases h with h | ⟨g, h1, h2, h3⟩
  · exact .inl h
  · exact .inr ⟨g, h1, h2, hk g _ h3⟩

theorem info5 : (Ybad.prog.info? 5).map (fun i => (i.zero, i.size, i.bytes)) = some (some (.int .u8 0), 1, 1) := by kernel_rfl
theorem info23 : (Ybad.prog.info? 23).map (fun i => (i.zero, i.size, i.bytes)) = some (some (.slice none 0 0), 1, 24) := by kernel_rfl

/-- 'make([]byte, n)'. -/
theorem make5_run (n : Nat) (h : n ≤ 65536) (W : World) :
    (Instr.makeSlice 23 (.int .i64 (n : Int)) (.int .i64 (n : Int))).run Ybad.prog W = .ok (.slice (some ⟨W.heap.size, 0, none⟩) n n) (W.alloc (.cells (List.replicate n (Value.int .u8 0)).toArray 5)) := by
  obtain ⟨i0, hi, hz0, hz1, hz2⟩ := info_parts info5
  have := run_make (P := Ybad.prog) W 23 5 i0 (.int .u8 0) Ybad.underlying23 hi hz0 .i64 .i64 (n : Int) (n : Int) (by omega) (by omega) (by rw [hz2]; omega) (by omega)
  rw [this, hz1]
  have e1 : ((n : Int)).toNat = n := by omega
  rw [e1]
  have e3 : madeCells (Value.int .u8 0).cells (n * 1) = (List.replicate n (Value.int .u8 0)).toArray := by
    apply Array.toList_inj.1
    rw [Nat.mul_one]
    exact toList_madeCells_one _ _
  rw [e3]

/-- 'copy(c, b)', c just made. -/
theorem copy_run (a : Option Addr) (n cb : Nat) (f : Nat → UInt8) (w : World) (ha : Ch.ok w ⟨a, n, cb, f⟩) (Z : List Value) (hZ : Z.length = n) :
    ∃ w2, (Builtin.copy_ #[23, 23] 3 #[.slice (some ⟨w.heap.size, 0, none⟩) n n, .slice a n cb]).run Ybad.prog (w.alloc (.cells Z.toArray 5)) = .ok (.int .i64 (n : Int)) w2 ∧
      w2.heap[w.heap.size]? = some (.cells (bcells f n).toArray 5 (0, 0)) ∧ Below w.heap.size w w2 := by
  have hsz : (Ybad.prog.info? 5).map (·.size) = some 1 := by kernel_rfl
  have hb : Below w.heap.size w (w.alloc (.cells Z.toArray 5)) := (Below.refl _ _).alloc (Nat.le_refl _) _
  have hok := ha.below hb
  rcases hok.1 with h0 | ⟨g, o, e, hc⟩
  · have h0' : n = 0 := h0
    subst h0'
    refine ⟨_, run_copy_none (P := Ybad.prog) _ 23 23 3 5 _ a _ _ _ cb Ybad.underlying23 hsz (by simp), ?_, hb⟩
    rw [heap_alloc_new, List.eq_nil_of_length_eq_zero hZ]
    simp [bcells]
  · have e' : a = some ⟨g, o, none⟩ := e
    subst e'
    have hr := run_copy_row (P := Ybad.prog) (w.alloc (.cells Z.toArray 5)) 23 23 3 5 w.heap.size 0 n n ⟨g, o, none⟩ n cb Z.toArray 5 (bcells f n) Ybad.underlying23 hsz (heap_alloc_new _ _) (by rw [bcells_length]; exact (Nat.min_self _).symm)
      (fun j v hv => by
        have hj : j < n := by
          have := (List.getElem?_eq_some_iff.1 hv).1
          rwa [bcells_length] at this
        rw [bcells_at f n j hj] at hv
        rw [Addr.add_lit, hc j hj, hv]) (by rw [bcells_length]; simp [hZ]) (bcells_one f n)
    rw [bcells_length] at hr
    refine ⟨_, hr, ?_, below_setRow hb (Nat.le_refl _) _⟩
    rw [setRow_heap _ _ _ _ _ _ (heap_alloc_new _ _)]
    simp [List.drop_of_length_le, hZ]

set_option maxHeartbeats 400000 in
theorem clone_any (a : Option Addr) (n c : Nat) (f : Nat → UInt8) (w : World) (ha : Ch.ok w ⟨a, n, c, f⟩) (hn : n ≤ 65536) :
    Calls Ybad.prog 7 #[.slice a n c] w fun e w' => ∃ a' c', e = .returned (.slice a' n c') ∧ Ch.own w' ⟨a', n, c', f⟩ ∧ Below w.heap.size w w' := by
  have HA := Hid.mk ha
  clear ha
  have hnil := fun W => Lib.run_eql_slice_nil (P := Ybad.prog) W 23 5 a n c 0 0 Ybad.underlying23
  rcases a with _ | ad
  · obtain ⟨e1, e2⟩ : n = 0 ∧ c = 0 := HA.out.2.2 rfl
    subst e1 e2
    go_enter Ybad.func7, Ybad.ntmps7
    go_wp2
    go_ret
    exact ⟨none, 0, rfl, .inl ⟨rfl, rfl, rfl⟩, Below.refl _ _⟩
  · have hmk := make5_run n hn w
    obtain ⟨Z, hZ⟩ : ∃ Z, Z = List.replicate n (Value.int .u8 0) := ⟨_, rfl⟩
    rw [← hZ] at hmk
    have hZl : Z.length = n := by rw [hZ]; exact List.length_replicate
    obtain ⟨w2, hcp, hg, hb⟩ := copy_run (some ad) n c f w HA.out Z hZl
    have HG := Hid.mk hg
    clear hZ hZl hg
    go_enter Ybad.func7, Ybad.ntmps7
    go_wp2
    go_ret
    exact ⟨_, _, rfl, .inr ⟨w.heap.size, rfl, rfl, HG.out⟩, hb⟩
end Go.Proofs.YbulkatswDoor.Dw
