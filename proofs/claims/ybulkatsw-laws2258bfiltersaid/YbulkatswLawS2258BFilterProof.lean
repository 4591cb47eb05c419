import Derived.Test.YbulkatswRows
import Derived.WalkKit
import Derived.ProofKit
import Derived.OpenShut
import Derived.ShutString
import Derived.ChangeOld
import Derived.Below
import Derived.Deep.Slices
import Derived.Deep.Strs
import Derived.Test.YbulkatswFilter
namespace Go.Proofs.Ybulkatsw.lawS2258BFilter
open Go.ChangeShapes Go.WideShapes Go.ChangeAt Go.RowKit
open Go.ChangeMaps (open_string shut_string)
set_option linter.unusedVariables false

theorem own : ownKnob Yba.prog.godebug = none := by kernel_rfl
theorem laidOut : laidOutB Yba.prog = true := by kernel_rfl

theorem cells112 : Yba.prog.cellsOf 112 = 3 := by kernel_rfl
theorem cells4 : Yba.prog.cellsOf 4 = 1 := by kernel_rfl
theorem cells5 : Yba.prog.cellsOf 5 = 1 := by kernel_rfl

theorem three_of {l : List Value} (h : l.length = 3) : ∃ a b c, l = [a, b, c] := by
  match l, h with
  | [a, b, c], _ => exact ⟨a, b, c, rfl⟩

/-- One item's cells. -/
theorem item_cells {H : Type} {enc : TypeId × Value → H} {W : World} {x : Addr} {n : Nat} {cs : List Value} {d : DataW H × List MemPlace} (hc : W.cells? 0 x 3 = some cs) (hx : x.spot = none)
    (ht : DataW.trod enc Yba.prog W 0 (fun _ => true) true n 112 cs = some d) :
    ∃ y : Bool × UInt8 × UInt8, W.cell? x = some (.bool y.1) ∧ W.cell? (x.add 1) = some (.int .u8 ((y.2.1).toNat : Int)) ∧ W.cell? (x.add 2) = some (.int .u8 ((y.2.2).toNat : Int)) := by
  obtain ⟨_, hl, hat⟩ := World.cells?_some hc
  obtain ⟨y0, y1, y2, m, _, _, t0, t1, t2⟩ := Deep.trod_struct3 Yba.underlying112 ht
  obtain ⟨c0, c1, c2, rfl⟩ := three_of hl
  simp [cells4, cells5] at t0 t1 t2
  obtain ⟨b0, e0, _⟩ := DataW.trod_bool Yba.underlying4 t0
  obtain ⟨z1, e1, _, w1⟩ := DataW.trod_int Yba.underlying5 t1
  obtain ⟨z2, e2, _, w2⟩ := DataW.trod_int Yba.underlying5 t2
  simp at e0 e1 e2
  subst e0 e1 e2
  have k1 : IntKind.u8.min = 0 := rfl
  have k2 : IntKind.u8.max = 255 := rfl
  have r1 : 0 ≤ z1 ∧ z1 ≤ 255 := by simpa [Lit.wf, k1, k2] using w1
  have r2 : 0 ≤ z2 ∧ z2 ≤ 255 := by simpa [Lit.wf, k1, k2] using w2
  refine ⟨(b0, z1.toNat.toUInt8, z2.toNat.toUInt8), ?_, ?_, ?_⟩
  · have := hat 0 (by omega)
    simpa [Addr.add, hx] using this
  · rw [hat 1 (by omega)]
    simp
    omega
  · rw [hat 2 (by omega)]
    simp
    omega

theorem walk (a0 : Option Addr) (len0 cap0 : Nat) (w : World) (w0 : len0 ≤ 1024 → ∃ Wf L D, Fo.Items w a0 len0 Wf L D) :
    Calls Yba.prog 3 #[.slice a0 len0 cap0] w fun e w' => e = .returned (.bool true) ∧ Below w.heap.size w w' := by
  by_cases h : len0 ≤ 1024
  · obtain ⟨Wf, L, D, hI⟩ := w0 h
    exact Fo.filter_any a0 len0 cap0 Wf L D w h hI
  · have q0 : (1024 : Int) < (len0 : Int) := by omega
    clear w0
    go_enter Yba.func3, Yba.ntmps3
    go_wp2
    go_ret
    exact ⟨rfl, Below.refl _ _⟩

/-! ### THE ROW's STEP: WRITTEN OUT: LEAVE IT -/
set_option maxRecDepth 100000 in
theorem lifted (os : Os) (started : os.Started) (H : Type) (enc : TypeId × Value → H) :
    ReturnsInHanded {} Yba.checked os 3 .any (Rows.lawS2258BFilterSpec.pre6 enc Yba.prog Yba.f3 Rows.lawS2258BFilterRow.domain false) (Rows.lawS2258BFilterSpec.post enc Yba.prog Yba.f3 false true false false) := by
  refine returnsInHanded_of_change (C := Yba.checked) own started (by kernel_rfl) Yba.func3
    (ChangeSpec.witness6 (enc := enc) (C := Yba.checked) false ⟨#[], #[.slice none 0 0], []⟩ 8 (by kernel_rfl) (by kernel_rfl) (by kernel_rfl) (by kernel_rfl)) ?_
  intro W base args ds gs before hval0 hW hcnd _
  have hval : ∀ (j : Nat) t v, Yba.f3.params[j]? = some t → args[j]? = some v → Value.okWide Yba.prog W .any base t v := hval0
  have hW' := hW
  obtain ⟨p, q, hA0, hV, rfl, hfz, hnd⟩ := hW
  have hA : DataW.TrodAll enc Yba.prog W 0 (fun _ => true) true Yba.f3.params.toList args.toList ds p := hA0
  rw [Yba.params3] at hA hval
  obtain ⟨v0, vs0, d0, ds0, p0, q0, hargs, rfl, rfl, h0, r0⟩ := trodAll_cons hA
  obtain ⟨rfl, rfl, rfl⟩ := trodAll_nil r0
  obtain rfl : args = #[v0] := by cases args; simp_all
  obtain ⟨rfl, rfl⟩ := trodVars_none hV
  obtain ⟨a0, len0, cap0, rfl⟩ := okWide_slice Yba.underlying22 (hval 0 22 v0 rfl rfl)
  have k0 := h0
  have lt0 : ∀ x ∈ p0, x.block < W.heap.size := by obtain ⟨m, hm⟩ := k0; exact DataW.trod_lt m _ _ _ hm
  have w0 : ∃ Wf L D, Fo.Items W a0 len0 Wf L D := by
    obtain ⟨fuel, hf⟩ := h0
    rcases Deep.open_slice Yba.underlying22 hf with ⟨hcs, _⟩ | ⟨x, l, c, m, n, D, Pl, hcs, _, hl, hm, hmm, _, hel⟩
    · simp [Value.cells] at hcs
      obtain ⟨rfl, rfl, rfl⟩ := hcs
      exact ⟨fun _ => false, fun _ => 0, fun _ => 0, .inl rfl⟩
    · simp [Value.cells] at hcs
      obtain ⟨rfl, rfl, rfl⟩ := hcs
      by_cases hz : len0 = 0
      · exact ⟨fun _ => false, fun _ => 0, fun _ => 0, .inl hz⟩
      have hlm : len0 ≤ m := by rw [hmm]; simpa using hl
      rw [cells112] at hel
      obtain ⟨b, off, spot⟩ := x
      have hspot : spot = none := by
        obtain ⟨cs', hc, _⟩ := hel 0 (by omega)
        obtain ⟨_, hlc, hat⟩ := World.cells?_some hc
        have h1 := hat 0 (by omega)
        obtain ⟨u, hu⟩ : ∃ u, cs'[0]? = some u := ⟨cs'[0], by simp⟩
        rw [hu] at h1
        simpa [Addr.add] using World.cell?_spot h1
      subst hspot
      have hone : ∀ i, i < len0 → ∃ y : Bool × UInt8 × UInt8, W.cell? ⟨b, off + i * 3, none⟩ = some (.bool y.1) ∧ W.cell? ⟨b, off + i * 3 + 1, none⟩ = some (.int .u8 ((y.2.1).toNat : Int)) ∧ W.cell? ⟨b, off + i * 3 + 2, none⟩ = some (.int .u8 ((y.2.2).toNat : Int)) := by
        intro i hi
        obtain ⟨cs', hc, ht⟩ := hel i (by omega)
        rw [Addr.add_lit] at hc
        have := item_cells hc rfl ht
        simpa [Addr.add_lit] using this
      obtain ⟨f, hfn⟩ := Deep.choose_lt hone
      exact ⟨fun i => (f i).1, fun i => (f i).2.1, fun i => (f i).2.2, .inr ⟨b, off, rfl, fun i hi => hfn i hi⟩⟩
  clear hA0 hval0
  refine (walk a0 len0 cap0 W (fun _ => w0)).mono fun e W' ⟨he, bel⟩ => ?_
  subst he
  exact ⟨_, rfl, _, _, _, [], _, [], hW', trodAll_mk1 (shut_bool Yba.underlying4 _), (trodAll_cons_mk (Below.trod laidOut (by kernel_rfl) (of_decide_eq_true (by kernel_rfl)) k0 bel lt0) trodAll_mk0), rfl, bel.frame _, fun h => by cases h⟩

theorem over : Rows.lawS2258BFilterRow.holds Yba.pinned (OpenSpec.ofChange Rows.lawS2258BFilterSpec) :=
  OpenClaim.holds_of_wide 3 Yba.f3 rfl rfl rfl rfl rfl rfl rfl ⟨rfl, rfl, rfl, rfl, rfl⟩ rfl rfl rfl rfl rfl (by kernel_rfl) Yba.func3 (by kernel_rfl)
    (of_decide_eq_true (by kernel_rfl)) (by unfold Func.isWrapper; first | (rw [if_pos (by decide +kernel)]; kernel_rfl) | (rw [if_neg (by decide +kernel)]; exact ⟨rfl, rfl⟩))
    (fun os started H enc _ => lifted os started H enc)

/-- ████ THE STATEMENT ████ -/
theorem proved : Rows.LawS2258BFilterSaid := over
#print axioms proved
end Go.Proofs.Ybulkatsw.lawS2258BFilter
