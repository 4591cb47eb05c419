import Derived.Test.YbulkatumOf
namespace Go.Proofs.Ybulkatum.Ap
open Go.RowKit
set_option linter.unusedVariables false

/-- Sixteen cells that may be written, by value handed back. -/
theorem results_cell_mid {P : Program} {fn : Func} {p : Tmp} {ty : TypeId} (h : fn.results = #[.cell p ty]) (tmps : Array Value) (w : World) (g : Nat) (cs : List Value) (d : TypeDesc)
    (hp : tmps.getD p undef = .pointer (some ⟨g, 0, none⟩)) (hg : w.rangeAt g 0 cs) (hu : P.underlying ty = some d) (hd : d.isRow = true) (hi : (P.info? ty).map (·.size) = some cs.length) :
    (results fn tmps).run P w = .ok (.agg cs.toArray) w := by
  have hp' : tmps[p]?.getD undef = .pointer (some ⟨g, 0, none⟩) := by simpa using hp
  simp [results, h, hp', asAddr, run_loadVar_mid w g 0 ty cs d hg hu hd hi]

def zero16 : Array Value := #[.int .u8 0, .int .u8 0, .int .u8 0, .int .u8 0, .int .u8 0, .int .u8 0, .int .u8 0, .int .u8 0, .int .u8 0, .int .u8 0, .int .u8 0, .int .u8 0, .int .u8 0, .int .u8 0, .int .u8 0, .int .u8 0]

theorem there_of_heap {w : World} {b : Nat} {A : Array Value} {t : TypeId} (h : w.heap[b]? = some (.cells A t (0, 0))) : w.there b 0 A.size := fun j hj => by
  constructor
  · rw [cell_of_row w b (0 + j) A t (0, 0) h]; simp; omega
  · simp [World.frozen?, h]

theorem below_there {B : Nat} {w w' : World} {b n : Nat} (h : Below B w w') (hb : b < B) (ht : w.there b 0 n) : w'.there b 0 n := fun j hj => by
  have := h.block b hb
  have := ht j hj
  unfold World.cell? World.frozen? at *
  simp_all

theorem below_up {n : Nat} {a b c : World} (h : Below n a b) (h' : Below b.heap.size b c) (hk : a.heap.size = n) : Below n a c :=
  h.trans (h'.mono (by have := h.size; omega))

theorem Keeps.cell {w w' : World} (h : Below w.heap.size w w') {p : Addr} {v : Value} (hc : w.cell? p = some v) : w'.cell? p = some v := by
  rw [h.cell (World.block_lt_of_cell? w p hc)]; exact hc

/-- Inside 'key': old memory stands; the result's own variable may be written. -/
structure KS (w w' : World) : Prop where
  below : Below w.heap.size w w'
  there : w'.there w.heap.size 0 16
  size : w.heap.size + 2 ≤ w'.heap.size
theorem KS.drew {w w' : World} (h : KS w w') : KS w w'.drew := ⟨h.below.drew, by simpa using h.there, by simpa using h.size⟩
theorem size_setCells (b : Nat) : ∀ (vs : List Value) (o : Nat) (w : World), (w.setCells b o vs).heap.size = w.heap.size
  | [], _, _ => rfl
  | v :: r, o, w => by rw [World.setCells, size_setCells b r (o + 1)]; simp
theorem below_setCells {B b : Nat} {a : World} (hb : B ≤ b) : ∀ (vs : List Value) (o : Nat) (w : World), Below B a w → Below B a (w.setCells b o vs)
  | [], _, _, h => h
  | v :: r, o, w, h => by rw [World.setCells]; exact below_setCells hb r (o + 1) _ (Below.setCell h (show B ≤ (⟨b, o, none⟩ : Addr).block from hb) v)
theorem KS.setCells {w w' : World} (h : KS w w') (o : Nat) (vs : List Value) : KS w (w'.setCells w.heap.size o vs) :=
  ⟨below_setCells (Nat.le_refl _) _ _ _ h.below, World.there_setCells h.there _ _ _, by rw [size_setCells]; exact h.size⟩
theorem KS.up {w w' w'' : World} (h : KS w w') (k : Below w'.heap.size w' w'') : KS w w'' :=
  ⟨h.below.trans (k.mono (by have := h.size; omega)), below_there k (by have := h.size; omega) h.there, by have := h.size; have := k.size; omega⟩

attribute [local go_sem ↓] Go.wp_at_zero Go.wp_at_succ
set_option maxRecDepth 20000 in
theorem key_row (w : World) (p : Addr) (n i r : Nat) (f : Nat → UInt8) (hi : i < 8) (hr : r = i + 1) (h44 : w.cell? ⟨n + 2, 44, none⟩ = some (.slice (some ⟨n + 4, 0, none⟩) 1 1)) (h4 : w.cell? ⟨n + 4, 0, none⟩ = some (.pointer (some ⟨n + 3, 0, none⟩)))
    (hc : ∀ j, j < 16 → w.cell? ⟨n + 3, i * 48 + j, none⟩ = some (.int .u8 ((f j).toNat : Int))) :
    Calls Yba.prog 13 #[.pointer (some p), .pointer (some ⟨n + 2, 44, none⟩), .int .u32 (r : Int)] w fun e w' => e = .returned (.agg (idArr f)) ∧ Below w.heap.size w w' := by
  obtain ⟨W0, hW⟩ : ∃ W0, W0 = ((w.alloc (.cells zero16 113)).alloc (.cells #[] 140)) := ⟨_, rfl⟩
  have hm := method_of
  have hKS : KS w W0 := by
    refine ⟨by rw [hW]; exact ((Below.refl _ _).alloc (Nat.le_refl _) _).alloc (by simp) _, ?_, by rw [hW]; simp⟩
    refine there_of_heap (A := zero16) (t := 113) ?_
    rw [hW, Below.heap_alloc _ _ _ (by simp), heap_alloc_new]
  have hsz := hKS.size
  obtain ⟨cs, hA⟩ : ∃ cs, cs = idList f := ⟨_, rfl⟩
  have hAs : cs.length = 16 := by rw [hA]; exact idList_length f
  have hi1 : (Yba.prog.info? 113).map (·.size) = some cs.length := by rw [hAs]; exact info113
  have hu := Yba.underlying113
  have ho1 : ∀ v ∈ cs, v.oneCell' = true := by rw [hA]; exact idList_one f
  have HF : Hid (∀ W, KS w W → W.cell? ⟨n + 2, 44, none⟩ = some (.slice (some ⟨n + 4, 0, none⟩) 1 1) ∧ W.cell? ⟨n + 4, 0, none⟩ = some (.pointer (some ⟨n + 3, 0, none⟩)) ∧ ∀ j, j < 16 → W.cell? ⟨n + 3, i * 48 + j, none⟩ = some (.int .u8 ((f j).toNat : Int))) := by
    intro W hb
    exact ⟨Keeps.cell hb.below h44, Keeps.cell hb.below h4, fun j hj => Keeps.cell hb.below (hc j hj)⟩
  have HA : Hid (idArr f = cs.toArray) := by rw [hA]; rfl
  rw [HA.out]
  have HR := Hid.mk hr
  clear hA hr h44 h4 hc
  go_enter Yba.func13, Yba.ntmps13
  go_wp2_with fail
  have e16 : (w.alloc (.cells #[.int .u8 0, .int .u8 0, .int .u8 0, .int .u8 0, .int .u8 0, .int .u8 0, .int .u8 0, .int .u8 0, .int .u8 0, .int .u8 0, .int .u8 0, .int .u8 0, .int .u8 0, .int .u8 0, .int .u8 0, .int .u8 0] 113)).alloc (.cells #[] 140) = W0 := hW.symm
  rw [e16]
  clear hW e16
  go_region_held3 (fun w' => KS w w') (first | assumption | exact KS.drew (by assumption) | exact KS.setCells (by assumption) _ _)
    ((first | (go_at_call 8; refine (at_row _ n i r hi HR.out ?_ ?_).mono ?_; exact (HF.out _ (by assumption)).1; exact (HF.out _ (by assumption)).2.1; rintro e w1 ⟨rfl, rfl⟩) | (go_at_call 52; refine (of_row _ _ _ f ?_).mono ?_; exact (HF.out _ (by assumption)).2.2; rw [HA.out]; rintro e w2 ⟨rfl, h2⟩; have hb2 : KS w w2 := KS.up (by assumption) h2; have ht2 := hb2.there; have ht3 := hb2.drew.there)))
  go_wp2
  refine bodyPost_ret (results_cell_mid rfl _ _ w.heap.size cs _ rfl (World.rangeAt_setCells_same _ _ _ _ (by rw [hAs]; exact ht2)) hu rfl hi1) rfl ?_
  exact ⟨rfl, (hb2.setCells 0 cs).below⟩

end Go.Proofs.Ybulkatum.Ap
