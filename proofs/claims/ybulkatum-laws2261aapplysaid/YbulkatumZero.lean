import Derived.Test.YbulkatumChange
import Derived.Laws.MakeOwn
import Derived.Laws.Tables
import Derived.OwnWalk
namespace Go.Proofs.Ybulkatum.Ap
open Go.RowKit
set_option linter.unusedVariables false

theorem built108 (b : Nat) : Yba.prog.built 108 [(20, .slice (some ⟨b, 0, none⟩) 1 1)] = some (Yba.zeroCells108.setIfInBounds 52 (.slice (some ⟨b, 0, none⟩) 1 1)) := by kernel_rfl
theorem zero108_48 : Yba.zeroCells108[48]? = some (.int .i64 0) := by kernel_rfl
theorem zero108_size : Yba.zeroCells108.size = 78 := by kernel_rfl
theorem wpList_build_as {P : Program} {ops : Array Oper} {rest : List Oper} {o : Oper} {a : Act} {w : World} {Q : Exit → Act → World → Prop} (hg : o.guard = none) (t : TypeId) (parts : Array (Nat × Operand)) (ho : o.op = .build t parts)
    (vals : List (Nat × Value)) (hv : (parts.toList.map fun p => (p.1, a.eval p.2)) = vals) (cells : Array Value) (hb : P.built t vals = some cells)
    (h : wpList P ops Q rest (a.put o.dst (.agg cells)) w) : wpList P ops Q (o :: rest) a w := by
  have e : (parts.map fun (i, x) => (i, a.eval x)).toList = vals := by rw [Array.toList_map]; exact hv
  refine wpList_build hg t parts ho ?_ ?_
  · rw [e, hb]; rfl
  · rw [e, hb]; exact h
theorem build108 (b : Nat) : ∃ BB : Array Value, BB.size = 78 ∧ BB[48]? = some (.int .i64 0) ∧ BB[52]? = some (.slice (some ⟨b, 0, none⟩) 1 1) ∧ Yba.prog.built 108 [(20, .slice (some ⟨b, 0, none⟩) 1 1)] = some BB :=
  ⟨_, by rw [Array.size_setIfInBounds]; exact zero108_size, by rw [Array.getElem?_setIfInBounds_ne (by omega)]; exact zero108_48, by rw [Array.getElem?_setIfInBounds_self_of_lt (by rw [zero108_size]; omega)], built108 b⟩
theorem built130 : Yba.prog.built 130 [(0, .string ⟨#[112]⟩)] = some #[.string ⟨#[112]⟩, .slice none 0 0, .int .u32 0, .int .u32 0, .int .u32 0, .int .u32 0] := by kernel_rfl

def zrow : List Value := (List.range 48).map (rowCell Row.zero)
theorem zrow_length : zrow.length = 48 := by simp [zrow]
def copies : Nat → List Value
  | 0 => []
  | n + 1 => zrow ++ copies n
theorem copies_get : ∀ (n i c : Nat), i < n → c < 48 → (copies n)[i * 48 + c]? = some (rowCell Row.zero c)
  | 0, _, _, h, _ => absurd h (Nat.not_lt_zero _)
  | n + 1, 0, c, _, hc => by
    rw [copies, List.getElem?_append_left (by rw [zrow_length]; omega), Nat.zero_mul, Nat.zero_add]
    simp [zrow, hc]
  | n + 1, i + 1, c, h, hc => by
    rw [copies, List.getElem?_append_right (by rw [zrow_length]; omega), zrow_length, show (i + 1) * 48 + c - 48 = i * 48 + c from by omega]
    exact copies_get n i c (by omega) hc
theorem zero133_take : Yba.zeroCells133.toList.take 384 = copies 8 := by kernel_rfl
theorem zero133_get (i c : Nat) (hi : i < 8) (hc : c < 48) : Yba.zeroCells133[i * 48 + c]? = some (rowCell Row.zero c) := by
  have := copies_get 8 i c hi hc
  rw [← zero133_take, List.getElem?_take_of_lt (by omega)] at this
  simpa using this

theorem info32 : (Yba.prog.info? 32).map (fun i => (i.zero, i.size, i.bytes)) = some (some (.int .u32 0), 1, 4) := by kernel_rfl
theorem info113' : (Yba.prog.info? 113).map (fun i => (i.zero, i.size, i.bytes)) = some (some (.agg zero16), 16, 16) := by kernel_rfl

theorem made_get (z : Array Value) (n j : Nat) (h : j < n) : (madeCells z n)[j]? = some (z[j % z.size]!) := by
  simp [madeCells, h]

theorem make33 (W : World) : (Instr.makeSlice 33 (.int .i64 16) (.int .i64 16)).run Yba.prog W = .ok (.slice (some ⟨W.heap.size, 0, none⟩) 16 16) (W.alloc (.cells (madeCells #[.int .u32 0] 16) 32)) := by
  obtain ⟨i0, hi, hz0, hz1, hz2⟩ := info_parts info32
  have := run_make (P := Yba.prog) W 33 32 i0 (.int .u32 0) Yba.underlying33 hi hz0 .i64 .i64 16 16 (by omega) (by omega) (by rw [hz2]; omega) (by omega)
  rw [this, hz1]
  rfl
theorem make27 (k : Nat) (hk : k ≤ 8) (W : World) : (Instr.makeSlice 27 (.int .i64 (k : Int)) (.int .i64 (k : Int))).run Yba.prog W = .ok (.slice (some ⟨W.heap.size, 0, none⟩) k k) (W.alloc (.cells (madeCells zero16 (k * 16)) 113)) := by
  obtain ⟨i0, hi, hz0, hz1, hz2⟩ := info_parts info113'
  have := run_make (P := Yba.prog) W 27 113 i0 (.agg zero16) Yba.underlying27 hi hz0 .i64 .i64 (k : Int) (k : Int) (by omega) (by omega) (by rw [hz2]; omega) (by omega)
  rw [this, hz1]
  have e1 : ((k : Int)).toNat = k := by omega
  rw [e1]
  rfl
theorem zero16_get : ∀ j : Nat, j < 16 → zero16[j]! = .int .u8 0
  | 0, _ => rfl
  | 1, _ => rfl
  | 2, _ => rfl
  | 3, _ => rfl
  | 4, _ => rfl
  | 5, _ => rfl
  | 6, _ => rfl
  | 7, _ => rfl
  | 8, _ => rfl
  | 9, _ => rfl
  | 10, _ => rfl
  | 11, _ => rfl
  | 12, _ => rfl
  | 13, _ => rfl
  | 14, _ => rfl
  | 15, _ => rfl
  | j + 16, h => absurd h (by omega)

end Go.Proofs.Ybulkatum.Ap
