import Derived.Test.YbulkatswDoorRows
import Derived.Test.YbulkatswDoorLaw
import Derived.ProofKit
import Derived.LaidMore
import Derived.OpenShut
import Derived.Stop.Joined
import Derived.Deep.Slices
import Derived.ChangeOld
namespace Go.Proofs.YbulkatswDoor.lawS2258AAll
open Go.ChangeShapes Go.WideShapes Go.ChangeAt Go.RowKit
set_option linter.unusedVariables false

theorem own : ownKnob Ybad.prog.godebug = none := by kernel_rfl
theorem laidOut : laidOutB Ybad.prog = true := by kernel_rfl
theorem cells23 : Ybad.prog.cellsOf 23 = 1 := by kernel_rfl
theorem cells5 : Ybad.prog.cellsOf 5 = 1 := by kernel_rfl

/-- The door's own heap meets the condition. -/
theorem door_met (os : Os) (args : Array Value) : laidMetH Ybad.prog Rows.lawS2258AAllRow.laid ((World.doorLaid Ybad.prog 400 os).forCall (fun _ _ => 0) ⟨#[], args, []⟩).memory :=
  laidMetH_of_parts3 (fuel := 8) (laidMet_of_run' 8 (by kernel_rfl) (by kernel_rfl)) (by kernel_rfl) (by kernel_rfl)

/-- A slice of bytes that came in. -/
theorem ch_of {H : Type} {enc : TypeId × Value → H} {W : World} {fuel : Nat} {cs : List Value} {y : DataW H × List MemPlace} (h : DataW.trod enc Ybad.prog W 0 (fun _ => true) true fuel 23 cs = some y) :
    ∃ x : Option Addr × Nat × Nat × (Nat → UInt8), cs = [.slice x.1 x.2.1 x.2.2.1] ∧ Dw.Ch.ok W ⟨x.1, x.2.1, x.2.2.1, x.2.2.2⟩ := by
  rcases open_ints Ybad.underlying23 Ybad.underlying5 cells5 h with ⟨hcs, _⟩ | ⟨x, l, c, zs, hcs, _, hl, hm, hz, _, hcell, hwz⟩
  · exact ⟨(none, 0, 0, fun _ => 0), hcs, .inl rfl, Nat.le_refl _, fun _ => ⟨rfl, rfl⟩⟩
  · refine ⟨(some x, l, c, fun i => Lib.byteOf (zs.getD i 0)), hcs, ?_, hl, fun e => by cases e⟩
    have hzl : zs.length = c := by simpa using hz
    by_cases h0 : l = 0
    · exact .inl h0
    obtain ⟨b, off, spot⟩ := x
    have hspot : spot = none := by simpa [Addr.add] using World.cell?_spot (hcell 0 (by omega))
    subst hspot
    refine .inr ⟨b, off, rfl, fun i hi => ?_⟩
    have hi' : i < l := hi
    have hc := hcell i (by omega)
    have hw := hwz (zs.getD i 0) (by simp [List.getD, show i < zs.length by omega])
    have hb : 0 ≤ zs.getD i 0 ∧ zs.getD i 0 ≤ 255 := by
      have e1 : IntKind.u8.min = 0 := rfl
      have e2 : IntKind.u8.max = 255 := rfl
      simpa [Lit.wf, e1, e2] using hw
    show W.cell? ⟨b, off + i, none⟩ = some (.int .u8 ((Lib.byteOf (zs.getD i 0)).toNat : Int))
    rw [Lib.byteOf_toNat hb, ← hc, Addr.add_lit]

set_option maxRecDepth 100000 in
theorem lifted (os : Os) (started : os.Started) (H : Type) (enc : TypeId × Value → H) :
    ReturnsInHanded {} Ybad.checked os 3 .any (fun w args => (Rows.lawS2258AAllSpec.pre enc Ybad.prog Ybad.f3 [] false w args ∧ laidMetH Ybad.prog Rows.lawS2258AAllRow.laid w) ∧ sizedMet enc Ybad.prog Ybad.f3 (OpenSpec.ofChange Rows.lawS2258AAllSpec) false w args)
      (Rows.lawS2258AAllSpec.post enc Ybad.prog Ybad.f3 false true false false) := by
  refine returnsInHanded_of_change_and (C := Ybad.checked) (X := fun w _ => laidMetH Ybad.prog Rows.lawS2258AAllRow.laid w) (fun _ _ _ hh h => h.of_heap hh) own started (by kernel_rfl) Ybad.func3
    (ChangeSpec.witness_shaped (enc := enc) (C := Ybad.checked) (os := os) (X := fun w _ => laidMetH Ybad.prog Rows.lawS2258AAllRow.laid w) false (World.doorLaid Ybad.prog 400 os) #[.slice none 0 0, .slice none 0 0] 8 rfl (World.shaped_of_RefB (by kernel_rfl) (by kernel_rfl)) (by kernel_rfl) (by kernel_rfl) (by kernel_rfl) (door_met os _)) ?_
  intro W base args ds gs before hval0 hW _ _ hL _
  have hval : ∀ (j : Nat) t v, Ybad.f3.params[j]? = some t → args[j]? = some v → Value.okWide Ybad.prog W .any base t v := hval0
  have hW' := hW
  obtain ⟨p, q, hA0, hV, rfl, hfz, hnd⟩ := hW
  have hA : DataW.TrodAll enc Ybad.prog W 0 (fun _ => true) true Ybad.f3.params.toList args.toList ds p := hA0
  rw [Ybad.params3] at hA hval
  obtain ⟨v0, v1, d0, d1, p0, p1, rfl, rfl, rfl, h0, h1⟩ := trodAll_two hA
  obtain ⟨rfl, rfl⟩ := trodVars_none hV
  obtain ⟨fa, n, fc, rfl⟩ := okWide_slice Ybad.underlying22 (hval 0 22 v0 rfl rfl)
  obtain ⟨ta, tn, tc, rfl⟩ := okWide_slice Ybad.underlying23 (hval 1 23 v1 rfl rfl)
  have k0 := h0
  have k1 := h1
  have lt0 : ∀ x ∈ p0, x.block < W.heap.size := by obtain ⟨m, hm⟩ := k0; exact DataW.trod_lt m _ _ _ hm
  have lt1 : ∀ x ∈ p1, x.block < W.heap.size := by obtain ⟨m, hm⟩ := k1; exact DataW.trod_lt m _ _ _ hm
  obtain ⟨tf, ht⟩ : ∃ tf, Dw.Ch.ok W ⟨ta, tn, tc, tf⟩ := by
    obtain ⟨fuel, hf⟩ := h1
    obtain ⟨x, hx, hok⟩ := ch_of (by simpa [Value.cells] using hf)
    simp at hx
    obtain ⟨e1, e2, e3⟩ := hx
    exact ⟨x.2.2.2, by rw [e1, e2, e3]; exact hok⟩
  obtain ⟨cs, hn, hF, hok, hnil⟩ : ∃ cs : List Dw.Ch, n = cs.length ∧ Dw.Full W fa cs ∧ (∀ x ∈ cs, x.ok W) ∧ (fa = none → n = 0 ∧ fc = 0) := by
    obtain ⟨fuel, hf⟩ := h0
    rcases Deep.open_slice Ybad.underlying22 hf with ⟨hcs, _⟩ | ⟨x, l, c, m, k, D, Pl, hcs, _, hl, hm, hmm, _, hel⟩
    · simp [Value.cells] at hcs
      obtain ⟨rfl, rfl, rfl⟩ := hcs
      exact ⟨[], rfl, .inl rfl, fun x hx => (by cases hx), fun _ => ⟨rfl, rfl⟩⟩
    · simp [Value.cells] at hcs
      obtain ⟨rfl, rfl, rfl⟩ := hcs
      by_cases hz : n = 0
      · exact ⟨[], hz, .inl rfl, fun x hx => (by cases hx), fun e => by cases e⟩
      have hlm : n ≤ m := by rw [hmm]; simpa using hl
      rw [cells23] at hel
      obtain ⟨b, off, spot⟩ := x
      have hone : ∀ i, i < n → ∃ x : Option Addr × Nat × Nat × (Nat → UInt8), W.cell? ((⟨b, off, spot⟩ : Addr).add i) = some (.slice x.1 x.2.1 x.2.2.1) ∧ Dw.Ch.ok W ⟨x.1, x.2.1, x.2.2.1, x.2.2.2⟩ := by
        intro i hi
        obtain ⟨cs', hc, ht'⟩ := hel i (by omega)
        obtain ⟨x, hx, hxo⟩ := ch_of ht'
        subst hx
        rw [Nat.mul_one] at hc
        exact ⟨x, cell_of_cells?_one hc, hxo⟩
      have hspot : spot = none := by
        obtain ⟨x, hx, _⟩ := hone 0 (by omega)
        simpa [Addr.add] using World.cell?_spot hx
      subst hspot
      obtain ⟨f, hfn⟩ := Deep.choose_lt hone
      refine ⟨(List.range n).map fun i => ⟨(f i).1, (f i).2.1, (f i).2.2.1, (f i).2.2.2⟩, by simp, .inr ⟨b, off, rfl, fun i hi => ?_⟩, fun x hx => ?_, fun e => by cases e⟩
      · have hi' : i < n := by simpa using hi
        have := (hfn i hi').1
        rw [Addr.add_lit] at this
        rw [this]
        simp [Dw.Ch.val]
      · obtain ⟨i, hi, rfl⟩ := List.mem_map.1 hx
        exact (hfn i (List.mem_range.1 hi)).2
  clear hA0 hval0
  refine (Dw.law_any fa ta n fc tn tc tf cs W hF hn hok ht hnil).mono fun e W' ⟨he, bel⟩ => ?_
  subst he
  exact ⟨_, rfl, _, _, _, [], _, [], hW', trodAll_mk1 (shut_bool Ybad.underlying4 _), trodAll_mk2 (Below.trod laidOut (by kernel_rfl) (of_decide_eq_true (by kernel_rfl)) k0 bel lt0) (Below.trod laidOut (by kernel_rfl) (of_decide_eq_true (by kernel_rfl)) k1 bel lt1), rfl, bel.frame _, fun h => by cases h⟩

theorem row_holds : Rows.LawS2258AAllSaid :=
  OpenClaim.holds_of_wide 3 Ybad.f3 rfl rfl rfl rfl rfl rfl rfl ⟨rfl, rfl, rfl, rfl, rfl⟩ rfl rfl rfl rfl rfl (by kernel_rfl) Ybad.func3 (by kernel_rfl)
    (of_decide_eq_true (by kernel_rfl)) (by unfold Func.isWrapper; first | (rw [if_pos (by decide +kernel)]; kernel_rfl) | (rw [if_neg (by decide +kernel)]; exact ⟨rfl, rfl⟩))
    (fun os started H enc _ => lifted os started H enc)
#print axioms row_holds
end Go.Proofs.YbulkatswDoor.lawS2258AAll
