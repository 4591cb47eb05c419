import Derived.Test.YbulkatumRows
import Derived.WalkKit
import Derived.ProofKit
import Derived.OpenShut
import Derived.ChangeOld
import Derived.Below
import Derived.Deep.Slices
import Derived.Deep.Strs
import Derived.Test.YbulkatumLaw
namespace Go.Proofs.Ybulkatum.lawS2261AApply
open Go.ChangeShapes Go.WideShapes Go.ChangeAt Go.RowKit
set_option linter.unusedVariables false

theorem own : ownKnob Yba.prog.godebug = none := by kernel_rfl
theorem laidOut : laidOutB Yba.prog = true := by kernel_rfl

theorem cells25 : Yba.prog.cellsOf 25 = 7 := by kernel_rfl
theorem cells5 : Yba.prog.cellsOf 5 = 1 := by kernel_rfl
theorem cells22 : Yba.prog.cellsOf 22 = 1 := by kernel_rfl
theorem cells23 : Yba.prog.cellsOf 23 = 1 := by kernel_rfl
theorem cells2 : Yba.prog.cellsOf 2 = 1 := by kernel_rfl

theorem seven_of {α : Type} {l : List α} (h : l.length = 7) : ∃ a b c d e f g, l = [a, b, c, d, e, f, g] := by
  match l, h with
  | [a, b, c, d, e, f, g], _ => exact ⟨a, b, c, d, e, f, g, rfl⟩

theorem nat_of {k : IntKind} {z m : Int} (hw : (Lit.int k z).wf = true) (h1 : k.min = 0) (h2 : k.max = m) : ∃ x : Nat, z = (x : Int) ∧ (x : Int) ≤ m := by
  have r : 0 ≤ z ∧ z ≤ m := by simpa [Lit.wf, h1, h2] using hw
  exact ⟨z.toNat, by omega, by omega⟩

/-- The input's seven cells. -/
theorem input_cells {H : Type} {enc : TypeId × Value → H} {W : World} {n : Nat} {cs : List Value} {d : DataW H × List MemPlace} (ht : DataW.trod enc Yba.prog W 0 (fun _ => true) true n 25 cs = some d) :
    ∃ (K Sel Salt Wait Reopen Checks : Nat) (En : Int), cs = [.int .u8 (K : Int), .int .u8 (Sel : Int), .int .u8 (Salt : Int), .int .u16 (Wait : Int), .int .u16 (Reopen : Int), .int .u32 (Checks : Int), .int .i64 En] ∧ K < 256 ∧ Sel < 256 ∧ Salt < 256 ∧ Wait < 65536 ∧ Reopen < 65536 ∧ Checks < 4294967296 := by
  obtain ⟨xs, m, _, rfl, hl, hlen, hf⟩ := DataW.trod_struct Yba.underlying25 ht
  rw [cells25] at hl
  obtain ⟨c0, c1, c2, c3, c4, c5, c6, rfl⟩ := seven_of hl
  obtain ⟨y0, y1, y2, y3, y4, y5, y6, rfl⟩ := seven_of (show xs.length = 7 from hlen)
  have t0 := hf 0 _ rfl
  have t1 := hf 1 _ rfl
  have t2 := hf 2 _ rfl
  have t3 := hf 3 _ rfl
  have t4 := hf 4 _ rfl
  have t5 := hf 5 _ rfl
  have t6 := hf 6 _ rfl
  simp [cells5, cells22, cells23, cells2] at t0 t1 t2 t3 t4 t5 t6
  have q0 : ∃ y, DataW.trod enc Yba.prog W 0 (fun _ => true) true m 5 [c0] = some y := ⟨_, t0⟩
  have q1 : ∃ y, DataW.trod enc Yba.prog W 0 (fun _ => true) true m 5 [c1] = some y := ⟨_, t1⟩
  have q2 : ∃ y, DataW.trod enc Yba.prog W 0 (fun _ => true) true m 5 [c2] = some y := ⟨_, t2⟩
  have q3 : ∃ y, DataW.trod enc Yba.prog W 0 (fun _ => true) true m 22 [c3] = some y := ⟨_, t3⟩
  have q4 : ∃ y, DataW.trod enc Yba.prog W 0 (fun _ => true) true m 22 [c4] = some y := ⟨_, t4⟩
  have q5 : ∃ y, DataW.trod enc Yba.prog W 0 (fun _ => true) true m 23 [c5] = some y := ⟨_, t5⟩
  have q6 : ∃ y, DataW.trod enc Yba.prog W 0 (fun _ => true) true m 2 [c6] = some y := ⟨_, t6⟩
  obtain ⟨_, q0⟩ := q0
  obtain ⟨_, q1⟩ := q1
  obtain ⟨_, q2⟩ := q2
  obtain ⟨_, q3⟩ := q3
  obtain ⟨_, q4⟩ := q4
  obtain ⟨_, q5⟩ := q5
  obtain ⟨_, q6⟩ := q6
  obtain ⟨z0, e0, _, w0⟩ := DataW.trod_int Yba.underlying5 q0
  obtain ⟨z1, e1, _, w1⟩ := DataW.trod_int Yba.underlying5 q1
  obtain ⟨z2, e2, _, w2⟩ := DataW.trod_int Yba.underlying5 q2
  obtain ⟨z3, e3, _, w3⟩ := DataW.trod_int Yba.underlying22 q3
  obtain ⟨z4, e4, _, w4⟩ := DataW.trod_int Yba.underlying22 q4
  obtain ⟨z5, e5, _, w5⟩ := DataW.trod_int Yba.underlying23 q5
  obtain ⟨z6, e6, _, w6⟩ := DataW.trod_int Yba.underlying2 q6
  simp at e0 e1 e2 e3 e4 e5 e6
  subst e0 e1 e2 e3 e4 e5 e6
  obtain ⟨K, rfl, b0⟩ := nat_of (m := 255) w0 rfl rfl
  obtain ⟨Sel, rfl, b1⟩ := nat_of (m := 255) w1 rfl rfl
  obtain ⟨Salt, rfl, b2⟩ := nat_of (m := 255) w2 rfl rfl
  obtain ⟨Wait, rfl, b3⟩ := nat_of (m := 65535) w3 rfl rfl
  obtain ⟨Reopen, rfl, b4⟩ := nat_of (m := 65535) w4 rfl rfl
  obtain ⟨Checks, rfl, b5⟩ := nat_of (m := 4294967295) w5 rfl rfl
  exact ⟨K, Sel, Salt, Wait, Reopen, Checks, z6, rfl, by omega, by omega, by omega, by omega, by omega, by omega⟩

/-! ### THE ROW's STEP -/
set_option maxRecDepth 100000 in
theorem lifted (os : Os) (started : os.Started) (H : Type) (enc : TypeId × Value → H) :
    ReturnsInHanded {} Yba.checked os 3 .any (Rows.lawS2261AApplySpec.pre6 enc Yba.prog Yba.f3 Rows.lawS2261AApplyRow.domain false) (Rows.lawS2261AApplySpec.post enc Yba.prog Yba.f3 false true false false) := by
  refine returnsInHanded_of_change (C := Yba.checked) own started (by kernel_rfl) Yba.func3
    (ChangeSpec.witness6 (enc := enc) (C := Yba.checked) false ⟨#[], #[.agg #[.int .u8 0, .int .u8 0, .int .u8 0, .int .u16 0, .int .u16 0, .int .u32 0, .int .i64 0]], []⟩ 8 (by kernel_rfl) (by kernel_rfl) (by kernel_rfl) (by kernel_rfl)) ?_
  intro W base args ds gs before hval0 hW hcnd _
  have hval : ∀ (j : Nat) t v, Yba.f3.params[j]? = some t → args[j]? = some v → Value.okWide Yba.prog W .any base t v := hval0
  have hW' := hW
  obtain ⟨p, q, hA0, hV, rfl, hfz, hnd⟩ := hW
  have hA : DataW.TrodAll enc Yba.prog W 0 (fun _ => true) true Yba.f3.params.toList args.toList ds p := hA0
  rw [Yba.params3] at hA hval
  obtain ⟨v0, vs0, d0, ds0, p0, q0, hargs, rfl, rfl, h0, r0⟩ := trodAll_cons hA
  obtain ⟨rfl, rfl, rfl⟩ := trodAll_nil r0
  obtain rfl : args = #[v0] := by cases args; simp_all
  obtain ⟨rfl, rfl⟩ := trodVars_none hV
  obtain ⟨ca, rfl, hca⟩ := okWide_struct Yba.underlying25 (hval 0 25 v0 rfl rfl)
  have k0 := h0
  have lt0 : ∀ x ∈ p0, x.block < W.heap.size := by obtain ⟨m, hm⟩ := k0; exact DataW.trod_lt m _ _ _ hm
  obtain ⟨fuel, hf⟩ := h0
  obtain ⟨K, Sel, Salt, Wait, Reopen, Checks, En, hcs, b0, b1, b2, b3, b4, b5⟩ := input_cells hf
  obtain rfl : ca = #[.int .u8 (K : Int), .int .u8 (Sel : Int), .int .u8 (Salt : Int), .int .u16 (Wait : Int), .int .u16 (Reopen : Int), .int .u32 (Checks : Int), .int .i64 En] := by
    apply Array.toList_inj.1
    exact hcs
  clear hA0 hval0
  refine (Ap.law_any K Sel Salt Wait Reopen Checks En W b0 b1 b2 b3 b4 b5).mono fun e W' ⟨he, bel⟩ => ?_
  subst he
  exact ⟨_, rfl, _, _, _, [], _, [], hW', trodAll_mk1 (shut_bool Yba.underlying4 _), (trodAll_cons_mk (Below.trod laidOut (by kernel_rfl) (of_decide_eq_true (by kernel_rfl)) k0 bel lt0) trodAll_mk0), rfl, bel.frame _, fun h => by cases h⟩

theorem over : Rows.lawS2261AApplyRow.holds Yba.pinned (OpenSpec.ofChange Rows.lawS2261AApplySpec) :=
  OpenClaim.holds_of_wide 3 Yba.f3 rfl rfl rfl rfl rfl rfl rfl ⟨rfl, rfl, rfl, rfl, rfl⟩ rfl rfl rfl rfl rfl (by kernel_rfl) Yba.func3 (by kernel_rfl)
    (of_decide_eq_true (by kernel_rfl)) (by unfold Func.isWrapper; first | (rw [if_pos (by decide +kernel)]; kernel_rfl) | (rw [if_neg (by decide +kernel)]; exact ⟨rfl, rfl⟩))
    (fun os started H enc _ => lifted os started H enc)

/-- THE STATEMENT -/
theorem proved : Rows.LawS2261AApplySaid := over
#print axioms proved
end Go.Proofs.Ybulkatum.lawS2261AApply
