import Derived.Test.YbulkatswRows
import Derived.WalkKit
import Derived.ProofKit
import Derived.OpenShut
import Derived.ShutString
import Derived.ChangeOld
import Derived.Below
import Derived.Deep.Slices
import Derived.Deep.Strs
import Derived.Test.YbulkatswLaw
namespace Go.Proofs.Ybulkatsw.lawS2258CModel
open Go.ChangeShapes Go.WideShapes Go.ChangeAt Go.RowKit
open Go.ChangeMaps (open_string shut_string)
set_option linter.unusedVariables false

theorem own : ownKnob Yba.prog.godebug = none := by kernel_rfl
theorem laidOut : laidOutB Yba.prog = true := by kernel_rfl

theorem cells48 : Yba.prog.cellsOf 48 = 4 := by kernel_rfl
theorem cells5 : Yba.prog.cellsOf 5 = 1 := by kernel_rfl

theorem four_of {α : Type} {l : List α} (h : l.length = 4) : ∃ a b c d, l = [a, b, c, d] := by
  match l, h with
  | [a, b, c, d], _ => exact ⟨a, b, c, d, rfl⟩

theorem byte_of {z : Int} (h : (Lit.int .u8 z).wf = true) : ∃ y : UInt8, z = (y.toNat : Int) := by
  have k1 : IntKind.u8.min = 0 := rfl
  have k2 : IntKind.u8.max = 255 := rfl
  have r1 : 0 ≤ z ∧ z ≤ 255 := by simpa [Lit.wf, k1, k2] using h
  refine ⟨z.toNat.toUInt8, ?_⟩
  simp
  omega

/-- One item's cells. -/
theorem item_cells {H : Type} {enc : TypeId × Value → H} {W : World} {b o : Nat} {n : Nat} {cs : List Value} {d : DataW H × List MemPlace} (hc : W.cells? 0 ⟨b, o, none⟩ 4 = some cs)
    (ht : DataW.trod enc Yba.prog W 0 (fun _ => true) true n 48 cs = some d) :
    ∃ y : Nat → UInt8, ∀ c, c < 4 → W.cell? ⟨b, o + c, none⟩ = some (.int .u8 ((y c).toNat : Int)) := by
  obtain ⟨_, hl, hat⟩ := World.cells?_some hc
  obtain ⟨xs, m, _, rfl, hl2, hlen, hf⟩ := DataW.trod_struct Yba.underlying48 ht
  obtain ⟨c0, c1, c2, c3, rfl⟩ := four_of hl
  obtain ⟨y0, y1, y2, y3, rfl⟩ := four_of (show xs.length = 4 from hlen)
  have t0 := hf 0 _ rfl
  have t1 := hf 1 _ rfl
  have t2 := hf 2 _ rfl
  have t3 := hf 3 _ rfl
  simp [cells5] at t0 t1 t2 t3
  have q0 : ∃ y, DataW.trod enc Yba.prog W 0 (fun _ => true) true m 5 [c0] = some y := ⟨_, t0⟩
  have q1 : ∃ y, DataW.trod enc Yba.prog W 0 (fun _ => true) true m 5 [c1] = some y := ⟨_, t1⟩
  have q2 : ∃ y, DataW.trod enc Yba.prog W 0 (fun _ => true) true m 5 [c2] = some y := ⟨_, t2⟩
  have q3 : ∃ y, DataW.trod enc Yba.prog W 0 (fun _ => true) true m 5 [c3] = some y := ⟨_, t3⟩
  obtain ⟨_, q0⟩ := q0
  obtain ⟨_, q1⟩ := q1
  obtain ⟨_, q2⟩ := q2
  obtain ⟨_, q3⟩ := q3
  obtain ⟨z0, e0, _, w0⟩ := DataW.trod_int Yba.underlying5 q0
  obtain ⟨z1, e1, _, w1⟩ := DataW.trod_int Yba.underlying5 q1
  obtain ⟨z2, e2, _, w2⟩ := DataW.trod_int Yba.underlying5 q2
  obtain ⟨z3, e3, _, w3⟩ := DataW.trod_int Yba.underlying5 q3
  simp at e0 e1 e2 e3
  subst e0 e1 e2 e3
  obtain ⟨b0, rfl⟩ := byte_of w0
  obtain ⟨b1, rfl⟩ := byte_of w1
  obtain ⟨b2, rfl⟩ := byte_of w2
  obtain ⟨b3, rfl⟩ := byte_of w3
  have h0 := hat 0 (by omega)
  have h1 := hat 1 (by omega)
  have h2 := hat 2 (by omega)
  have h3 := hat 3 (by omega)
  rw [Addr.add_lit] at h0 h1 h2 h3
  refine ⟨fun c => if c = 0 then b0 else if c = 1 then b1 else if c = 2 then b2 else b3, fun c hc => ?_⟩
  match c, hc with
  | 0, _ => simpa using h0
  | 1, _ => simpa using h1
  | 2, _ => simpa using h2
  | 3, _ => simpa using h3

set_option maxRecDepth 100000 in
theorem walk (a0 : Option Addr) (len0 cap0 : Nat) (w : World) (w0 : len0 ≤ 1024 → ∃ f, Md.Items w a0 len0 f) :
    Calls Yba.prog 5 #[.slice a0 len0 cap0] w fun e w' => e = .returned (.bool true) ∧ Below w.heap.size w w' := by
  by_cases h : len0 ≤ 1024
  · obtain ⟨f, hI⟩ := w0 h
    exact Md.law_any a0 len0 cap0 f w h hI
  · have q0 : (1024 : Int) < (len0 : Int) := by omega
    clear w0
    go_enter Yba.func5, Yba.ntmps5
    go_wp2
    go_ret
    exact ⟨rfl, Below.refl _ _⟩

/-! ### THE ROW's STEP: WRITTEN OUT: LEAVE IT -/
set_option maxRecDepth 100000 in
theorem lifted (os : Os) (started : os.Started) (H : Type) (enc : TypeId × Value → H) :
    ReturnsInHanded {} Yba.checked os 5 .any (Rows.lawS2258CModelSpec.pre6 enc Yba.prog Yba.f5 Rows.lawS2258CModelRow.domain false) (Rows.lawS2258CModelSpec.post enc Yba.prog Yba.f5 false true false false) := by
  refine returnsInHanded_of_change (C := Yba.checked) own started (by kernel_rfl) Yba.func5
    (ChangeSpec.witness6 (enc := enc) (C := Yba.checked) false ⟨#[], #[.slice none 0 0], []⟩ 8 (by kernel_rfl) (by kernel_rfl) (by kernel_rfl) (by kernel_rfl)) ?_
  intro W base args ds gs before hval0 hW hcnd _
  have hval : ∀ (j : Nat) t v, Yba.f5.params[j]? = some t → args[j]? = some v → Value.okWide Yba.prog W .any base t v := hval0
  have hW' := hW
  obtain ⟨p, q, hA0, hV, rfl, hfz, hnd⟩ := hW
  have hA : DataW.TrodAll enc Yba.prog W 0 (fun _ => true) true Yba.f5.params.toList args.toList ds p := hA0
  rw [Yba.params5] at hA hval
  obtain ⟨v0, vs0, d0, ds0, p0, q0, hargs, rfl, rfl, h0, r0⟩ := trodAll_cons hA
  obtain ⟨rfl, rfl, rfl⟩ := trodAll_nil r0
  obtain rfl : args = #[v0] := by cases args; simp_all
  obtain ⟨rfl, rfl⟩ := trodVars_none hV
  obtain ⟨a0, len0, cap0, rfl⟩ := okWide_slice Yba.underlying31 (hval 0 31 v0 rfl rfl)
  have k0 := h0
  have lt0 : ∀ x ∈ p0, x.block < W.heap.size := by obtain ⟨m, hm⟩ := k0; exact DataW.trod_lt m _ _ _ hm
  have w0 : ∃ f, Md.Items W a0 len0 f := by
    obtain ⟨fuel, hf⟩ := h0
    rcases Deep.open_slice Yba.underlying31 hf with ⟨hcs, _⟩ | ⟨x, l, c, m, n, D, Pl, hcs, _, hl, hm, hmm, _, hel⟩
    · simp [Value.cells] at hcs
      obtain ⟨rfl, rfl, rfl⟩ := hcs
      exact ⟨fun _ _ => 0, .inl rfl⟩
    · simp [Value.cells] at hcs
      obtain ⟨rfl, rfl, rfl⟩ := hcs
      by_cases hz : len0 = 0
      · exact ⟨fun _ _ => 0, .inl hz⟩
      have hlm : len0 ≤ m := by rw [hmm]; simpa using hl
      rw [cells48] at hel
      obtain ⟨b, off, spot⟩ := x
      have hspot : spot = none := by
        obtain ⟨cs', hc, _⟩ := hel 0 (by omega)
        obtain ⟨_, hlc, hat⟩ := World.cells?_some hc
        have h1 := hat 0 (by omega)
        obtain ⟨u, hu⟩ : ∃ u, cs'[0]? = some u := ⟨cs'[0], by simp⟩
        rw [hu] at h1
        simpa [Addr.add] using World.cell?_spot h1
      subst hspot
      have hone : ∀ i, i < len0 → ∃ y : Nat → UInt8, ∀ c, c < 4 → W.cell? ⟨b, off + i * 4 + c, none⟩ = some (.int .u8 ((y c).toNat : Int)) := by
        intro i hi
        obtain ⟨cs', hc, ht⟩ := hel i (by omega)
        rw [Addr.add_lit] at hc
        exact item_cells hc ht
      obtain ⟨f, hfn⟩ := Deep.choose_lt hone
      exact ⟨f, .inr ⟨b, off, rfl, fun i hi c hc => hfn i hi c hc⟩⟩
  clear hA0 hval0
  refine (walk a0 len0 cap0 W (fun _ => w0)).mono fun e W' ⟨he, bel⟩ => ?_
  subst he
  exact ⟨_, rfl, _, _, _, [], _, [], hW', trodAll_mk1 (shut_bool Yba.underlying4 _), (trodAll_cons_mk (Below.trod laidOut (by kernel_rfl) (of_decide_eq_true (by kernel_rfl)) k0 bel lt0) trodAll_mk0), rfl, bel.frame _, fun h => by cases h⟩

theorem over : Rows.lawS2258CModelRow.holds Yba.pinned (OpenSpec.ofChange Rows.lawS2258CModelSpec) :=
  OpenClaim.holds_of_wide 5 Yba.f5 rfl rfl rfl rfl rfl rfl rfl ⟨rfl, rfl, rfl, rfl, rfl⟩ rfl rfl rfl rfl rfl (by kernel_rfl) Yba.func5 (by kernel_rfl)
    (of_decide_eq_true (by kernel_rfl)) (by unfold Func.isWrapper; first | (rw [if_pos (by decide +kernel)]; kernel_rfl) | (rw [if_neg (by decide +kernel)]; exact ⟨rfl, rfl⟩))
    (fun os started H enc _ => lifted os started H enc)

/-- ████ THE STATEMENT ████ -/
theorem proved : Rows.LawS2258CModelSaid := over
#print axioms proved
end Go.Proofs.Ybulkatsw.lawS2258CModel
