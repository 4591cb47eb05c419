import Derived.Test.YbulkatumRec
import Derived.Deep.QuietTactic
namespace Go.Proofs.Ybulkatum.Ap
open Go.RowKit
set_option linter.unusedVariables false

/-- A long array's load in the quiet walk: by its range, not cell by cell. -/
theorem wpQuiet_load_mid {P : Program} {ops : Array Oper} {C : World → Prop} {Q : Act → Prop} {rest : List Oper} {o : Oper} {a : Act} (hw : Region.wanted o (yielded ops a.tmps) = true) (ty : TypeId) (x : Operand) (ho : o.op = .load ty x)
    (b off : Nat) (hx : a.eval x = .pointer (some ⟨b, off, none⟩)) (cs : List Value) (d : TypeDesc) (hC : ∀ w, C w → w.rangeAt b off cs)
    (hu : P.underlying ty = some d) (hd : d.isRow = true) (hi : (P.info? ty).map (·.size) = some cs.length) (h : wpQuiet P ops C Q rest (a.put o.dst (.agg cs.toArray))) : wpQuiet P ops C Q (o :: rest) a := by
  unfold wpQuiet
  rw [if_pos hw]
  refine ⟨_, fun w hw' => ?_, h⟩
  unfold Oper.quietAt execOp
  simp only [ho, hx, Instr.loadAt, Instr.sureAddr, Sem.run_bind, Sem.run_pure, Result.andThen_ok, run_loadVar_mid w b off ty cs d (hC w hw') hu hd hi]
  exact ⟨rfl, rfl⟩

theorem rangeAt_drewN {W : World} {b o : Nat} {cs : List Value} (h : W.rangeAt b o cs) : ∀ w, (∃ n, w = W.drewN n) → w.rangeAt b o cs := by
  rintro w ⟨n, rfl⟩
  intro j v hv
  rw [← h j v hv]
  rfl

end Go.Proofs.Ybulkatum.Ap
