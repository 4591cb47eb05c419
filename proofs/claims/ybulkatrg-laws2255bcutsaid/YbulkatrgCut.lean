import Derived.Test.YbulkatrgShared
import Derived.Laws.CopyOwn
import Derived.OwnWalk
import Derived.WalkSpells
import Derived.Laws.BitsAllLaws
namespace Go.Proofs.Ybulkatrg.Sh
open Go.RowKit
set_option linter.unusedVariables false

theorem info5 : (Yba.prog.info? 5).map (fun i => (i.zero, i.size, i.bytes)) = some (some (.int .u8 0), 1, 1) := by kernel_rfl

/-- The cells of n bytes. -/
def bcells (f : Nat → UInt8) (n : Nat) : List Value := (List.range n).map fun i => .int .u8 ((f i).toNat : Int)
theorem bcells_length (f : Nat → UInt8) (n : Nat) : (bcells f n).length = n := by simp [bcells]
theorem bcells_at (f : Nat → UInt8) (n j : Nat) (h : j < n) : (bcells f n)[j]? = some (.int .u8 ((f j).toNat : Int)) := by simp [bcells, h]
theorem bcells_one (f : Nat → UInt8) (n : Nat) : ∀ v ∈ bcells f n, v.oneCell' = true := by
  intro v hv
  obtain ⟨i, _, rfl⟩ := List.mem_map.1 hv
  rfl

theorem Row.src {w : World} {a : Option Addr} {n : Nat} {f : Nat → UInt8} (h : Row w a n f) (hn : 0 < n) : ∃ ad, a = some ad ∧ ∀ j v, (bcells f n)[j]? = some v → w.cell? (ad.add j) = some v := by
  rcases h with h | ⟨g, o, rfl, hc⟩
  · omega
  · refine ⟨_, rfl, fun j v hv => ?_⟩
    have hj : j < n := by
      have := (List.getElem?_eq_some_iff.1 hv).1
      rwa [bcells_length] at this
    rw [bcells_at f n j hj] at hv
    rw [Addr.add_lit, hc j hj, hv]

/-- 'make([]byte, la, la+lt)'. -/
theorem make_run (la lt : Nat) (h : la ≤ 1048576) (h' : lt ≤ 1048576) (W : World) :
    (Instr.makeSlice 32 (.int .i64 (la : Int)) (.int .i64 ((la : Int) + (lt : Int)))).run Yba.prog W = .ok (.slice (some ⟨W.heap.size, 0, none⟩) la (la + lt)) (W.alloc (.cells (List.replicate (la + lt) (Value.int .u8 0)).toArray 5)) := by
  obtain ⟨i0, hi, hz0, hz1, hz2⟩ := info_parts info5
  have := run_make (P := Yba.prog) W 32 5 i0 (.int .u8 0) Yba.underlying32 hi hz0 .i64 .i64 (la : Int) ((la : Int) + (lt : Int)) (by omega) (by omega) (by rw [hz2]; omega) (by omega)
  rw [this, hz1]
  have e1 : ((la : Int)).toNat = la := by omega
  have e2 : ((la : Int) + (lt : Int)).toNat = la + lt := by omega
  rw [e1, e2]
  have e3 : madeCells (Value.int .u8 0).cells ((la + lt) * 1) = (List.replicate (la + lt) (Value.int .u8 0)).toArray := by
    apply Array.toList_inj.1
    rw [Nat.mul_one]
    exact toList_madeCells_one _ _
  rw [e3]

/-- 'copy(b, a)', b just made. -/
theorem copy_run (a : Option Addr) (la ca lt : Nat) (f : Nat → UInt8) (w : World) (ha : Row w a la f) (Z : List Value) (hZ : Z.length = la + lt) :
    ∃ w2, (Builtin.copy_ #[32, 32] 3 #[.slice (some ⟨w.heap.size, 0, none⟩) la (la + lt), .slice a la ca]).run Yba.prog (w.alloc (.cells Z.toArray 5)) = .ok (.int .i64 (la : Int)) w2 ∧
      w2.heap[w.heap.size]? = some (.cells (bcells f la ++ Z.drop la).toArray 5 (0, 0)) ∧ Below w.heap.size w w2 ∧ w2.heap.size = w.heap.size + 1 := by
  have hsz : (Yba.prog.info? 5).map (·.size) = some 1 := by kernel_rfl
  have hb : Below w.heap.size w (w.alloc (.cells Z.toArray 5)) := (Below.refl _ _).alloc (Nat.le_refl _) _
  by_cases h0 : la = 0
  · subst h0
    refine ⟨_, run_copy_none (P := Yba.prog) _ 32 32 3 5 _ a _ _ _ ca Yba.underlying32 hsz (by simp), ?_, hb, by simp⟩
    rw [heap_alloc_new]
    simp [bcells]
  · obtain ⟨ad, rfl, hc⟩ := (ha.below hb).src (by omega)
    have hr := run_copy_row (P := Yba.prog) (w.alloc (.cells Z.toArray 5)) 32 32 3 5 w.heap.size 0 la (la + lt) ad la ca Z.toArray 5 (bcells f la) Yba.underlying32 hsz (heap_alloc_new _ _) (by rw [bcells_length]; exact (Nat.min_self _).symm) hc (by rw [bcells_length]; simp [hZ]) (bcells_one f la)
    rw [bcells_length] at hr
    refine ⟨_, hr, ?_, below_setRow hb (Nat.le_refl _) _, by simp [World.setRow]⟩
    rw [setRow_heap _ _ _ _ _ _ (heap_alloc_new _ _)]
    simp

theorem flip_bits (b x : UInt8) : bits .xor .u8 ((b.toNat : Int)) (bits .or .u8 ((x.toNat : Int)) 1) = (((b ^^^ (x ||| 1)).toNat : Nat) : Int) := by
  have hb := b.toNat_lt
  have hx := x.toNat_lt
  have e1 : bits .or .u8 ((x.toNat : Int)) 1 = (((x ||| 1).toNat : Nat) : Int) := by
    rw [u8_or _ _ (by omega) (by omega) (by omega) (by omega)]
    simp
  have hy := (x ||| 1).toNat_lt
  rw [e1, u8_xor_nat _ _ (by omega) (by omega)]
  simp

theorem flip_ne (b x : UInt8) : b ^^^ (x ||| 1) ≠ b := by
  intro e
  have h1 : b ^^^ (b ^^^ (x ||| 1)) = b ^^^ b := congrArg (b ^^^ ·) e
  rw [← UInt8.xor_assoc, UInt8.xor_self, UInt8.zero_xor] at h1
  have h2 := congrArg (fun y : UInt8 => y.toNat.testBit 0) h1
  simp at h2

/-- What the bytes of b are behind the flip at place ka. -/
def cutBytes (f h : Nat → UInt8) (la ka : Nat) (x : UInt8) : Nat → UInt8 := fun i => if i < la then (if i = ka then f i ^^^ (x ||| 1) else f i) else h (i - la)

theorem cut_shared (f h : Nat → UInt8) (la lt ka : Nat) (x : UInt8) (hk : ka ≤ la) : IsShared f (cutBytes f h la ka x) (min la (la + lt)) ka := by
  refine ⟨by omega, fun i hi => ?_, fun hlt => ?_⟩
  · rw [cutBytes, if_pos (by omega), if_neg (by omega)]
  · rw [cutBytes, if_pos (by omega), if_pos rfl]
    exact fun e => flip_ne _ _ e.symm

theorem cells_app (f h : Nat → UInt8) (la lt i : Nat) (hi : i < la + lt) : (bcells f la ++ bcells h lt)[i]? = some (.int .u8 (((if i < la then f i else h (i - la)).toNat : Nat) : Int)) := by
  by_cases hl : i < la
  · rw [List.getElem?_append_left (by rw [bcells_length]; exact hl), bcells_at f la i hl, if_pos hl]
  · rw [List.getElem?_append_right (by rw [bcells_length]; omega), bcells_length, bcells_at h lt (i - la) (by omega), if_neg hl]

theorem row_plain {w3 : World} {B la lt : Nat} {f h : Nat → UInt8} (ho : w3.ownsRow B 5 1 (.slice (some ⟨B, 0, none⟩) (la + lt) (la + lt)) (la + lt) (bcells f la ++ bcells h lt)) (x : UInt8) : Row w3 (some ⟨B, 0, none⟩) (la + lt) (cutBytes f h la la x) := by
  refine .inr ⟨_, _, rfl, fun i hi => ?_⟩
  rw [Nat.zero_add, ho.cellAt i (by omega), cells_app f h la lt i hi, cutBytes]
  by_cases hl : i < la
  · rw [if_pos hl, if_pos hl, if_neg (by omega)]
  · rw [if_neg hl, if_neg hl]

theorem row_flip {w3 : World} {B la lt ka : Nat} {f h : Nat → UInt8} (ho : w3.ownsRow B 5 1 (.slice (some ⟨B, 0, none⟩) (la + lt) (la + lt)) (la + lt) (bcells f la ++ bcells h lt)) (x : UInt8) (hk : ka < la) :
    Row (w3.setCell ⟨B, ka, none⟩ (.int .u8 (((f ka ^^^ (x ||| 1)).toNat : Nat) : Int))) (some ⟨B, 0, none⟩) (la + lt) (cutBytes f h la ka x) := by
  refine .inr ⟨_, _, rfl, fun i hi => ?_⟩
  have hci : ∀ i, i < la + lt → w3.cell? ⟨B, i, none⟩ = some (.int .u8 (((if i < la then f i else h (i - la)).toNat : Nat) : Int)) := fun i hi => by
    rw [ho.cellAt i (by omega), cells_app f h la lt i hi]
  rw [Nat.zero_add]
  by_cases hik : i = ka
  · subst hik
    rw [World.cell?_setCell_same _ _ _ (hci i hi), cutBytes, if_pos hk, if_pos rfl]
  · have hne : (⟨B, ka, none⟩ : Addr) ≠ ⟨B, i, none⟩ := fun e => hik (by injection e with _ e2; exact e2.symm)
    rw [World.cell?_setCell_other _ _ _ _ hne, hci i hi, cutBytes, if_neg hik]

set_option maxHeartbeats 800000 in
theorem cut_any (a : Option Addr) (la ca : Nat) (k x : Int) (t : Option Addr) (lt ct : Nat) (f h : Nat → UInt8) (w : World) (ha : Row w a la f) (ht : Row w t lt h) (hla : la ≤ 1048576) (hlt : lt ≤ 1048576) (hca : la ≤ ca) (hct : lt ≤ ct) (htn : t = none → lt = 0 ∧ ct = 0)
    (hk : (Lit.int .u64 k).wf = true) (hx : (Lit.int .u8 x).wf = true) :
    Calls Yba.prog 6 #[.slice a la ca, .int .u64 k, .int .u8 x, .slice t lt ct] w fun e w' => e = .returned (.bool true) ∧ Below w.heap.size w w' := by
  have HA : Hid (Row w a la f) := ha
  have HT : Hid (Row w t lt h) := ht
  clear ha ht
  have hq0 : ¬ (1048576 : Int) < (la : Int) := by omega
  have hq1 : ¬ (1048576 : Int) < (lt : Int) := by omega
  have hmk := make_run la lt hla hlt w
  obtain ⟨Z, hZ⟩ : ∃ Z, Z = List.replicate (la + lt) (Value.int .u8 0) := ⟨_, rfl⟩
  rw [← hZ] at hmk
  have HZ : Hid (Z.length = la + lt) := by rw [hZ]; exact List.length_replicate
  clear hZ
  obtain ⟨X, hX⟩ : ∃ X, X = bcells f la := ⟨_, rfl⟩
  obtain ⟨Y, hY⟩ : ∃ Y, Y = bcells h lt := ⟨_, rfl⟩
  have HX : Hid (X = bcells f la) := hX
  have HY : Hid (Y = bcells h lt) := hY
  clear hX hY
  obtain ⟨w2, hcp, hg2, hb2, hs2⟩ := copy_run a la ca lt f w HA.out Z HZ.out
  have hown2 : w2.ownsRow w.heap.size 5 1 (.slice (some ⟨w.heap.size, 0, none⟩) la (la + lt)) la X := by
    refine ⟨by rw [HX.out, bcells_length]; omega, .inr ⟨w.heap.size, la + lt, _, rfl, Nat.le_refl _, hg2, by omega, by unfold maxLen; omega, ?_, ?_⟩⟩
    · rw [List.size_toArray, List.length_append, bcells_length, List.length_drop, HZ.out]; omega
    · rw [Nat.mul_one, HX.out, List.take_append_of_le_length (by rw [bcells_length]; omega)]
      exact List.take_of_length_le (by rw [bcells_length]; omega)
  have HO2 : Hid (w2.ownsRow w.heap.size 5 1 (.slice (some ⟨w.heap.size, 0, none⟩) la (la + lt)) la X) := hown2
  clear hown2 hg2
  have hk0 : 0 ≤ k := by
    have e1 : IntKind.u64.min = 0 := rfl
    simp [Lit.wf, e1] at hk
    exact hk.1
  obtain ⟨ka, hka, hkl⟩ : ∃ ka : Nat, k.tmod ((la : Int) + 1) = (ka : Int) ∧ ka ≤ la := by
    refine ⟨(k.tmod ((la : Int) + 1)).toNat, ?_, ?_⟩
    · rw [Int.toNat_of_nonneg (Int.tmod_nonneg _ hk0)]
    · have := Int.tmod_lt_of_pos k (show (0 : Int) < (la : Int) + 1 by omega)
      omega
  obtain ⟨xb, hxb⟩ : ∃ xb : UInt8, x = (xb.toNat : Int) := by
    have e1 : IntKind.u8.min = 0 := rfl
    have e2 : IntKind.u8.max = 255 := rfl
    have : 0 ≤ x ∧ x ≤ 255 := by simpa [Lit.wf, e1, e2] using hx
    exact ⟨Lib.byteOf x, (Lib.byteOf_toNat this).symm⟩
  subst hxb
  clear hk hx hk0
  go_enter Yba.func6, Yba.ntmps6
  obtain ⟨i0, hi, hz0, hz1, hz2⟩ := info_parts info5
  go_wp2_with (at_builtin; refine wpList_append_fits_any _ rfl (.tmp 30) (.tmp 31) 32 (by rfl) w.heap.size 5 i0 1 Yba.underlying32 hi hz1 w.heap.size la (la + lt) X (by rfl) HO2.out t lt ct Y (by rfl) ?d1 ?d2 ?d3 ?d4 ?d5 ?_)
  case d1 => rw [HY.out, bcells_length]
  case d2 => exact htn
  case d3 =>
    intro ad had j u hu
    rw [HY.out] at hu
    by_cases hl0 : lt = 0
    · subst hl0; simp [bcells] at hu
    · obtain ⟨ad', e, hc⟩ := (HT.out.below hb2).src (by omega)
      rw [had] at e
      obtain rfl := Option.some.inj e
      exact hc j u hu
  case d4 => rw [HY.out]; exact bcells_one h lt
  intro w3 hown3 hgrow3
  have HO3 : Hid (w3.ownsRow w.heap.size 5 1 (.slice (some ⟨w.heap.size, 0, none⟩) (la + lt) (la + lt)) (la + lt) (X ++ Y)) := hown3
  have hb3 : Below w.heap.size w w3 := hb2.grown hgrow3 (by omega) (by intro k hk; injection hk with hk; omega)
  have hs3 := hgrow3.size
  clear hown3 hgrow3 HO2 hcp hmk htn hi hz0 hz1 hz2
  by_cases hkla : ka < la
  · have q3 : (ka : Int) < (la : Int) := by omega
    have q4 : (ka : Int) < (la : Int) + (lt : Int) := by omega
    have hcell : w3.cell? ⟨w.heap.size, ka, none⟩ = some (.int .u8 ((f ka).toNat : Int)) := by
      rw [HO3.out.cellAt ka (by omega), HX.out, List.getElem?_append_left (by rw [bcells_length]; omega), bcells_at f la ka hkla]
    have hfz : w3.frozen? ⟨w.heap.size, ka, none⟩ = false := HO3.out.frozenAt ka
    obtain ⟨nb, hnb⟩ : ∃ nb, nb = f ka ^^^ (xb ||| 1) := ⟨_, rfl⟩
    have hbits := flip_bits (f ka) xb
    have HRF := row_flip (w3 := w3) (B := w.heap.size) (la := la) (lt := lt) (ka := ka) (f := f) (h := h) (by rw [← HX.out, ← HY.out]; exact HO3.out) xb hkla
    rw [← hnb] at hbits HRF
    clear hnb
    have hw4 : Below w.heap.size w (w3.setCell ⟨w.heap.size, ka, none⟩ (.int .u8 ((nb.toNat : Nat) : Int))) := hb3.setCell (Nat.le_refl _) _
    have HR4 : Hid (Row (w3.setCell ⟨w.heap.size, ka, none⟩ (.int .u8 ((nb.toNat : Nat) : Int))) (some ⟨w.heap.size, 0, none⟩) (la + lt) (cutBytes f h la ka xb)) := HRF
    clear HRF
    have hsz : (w3.setCell ⟨w.heap.size, ka, none⟩ (.int .u8 ((nb.toNat : Nat) : Int))).heap.size = w3.heap.size := by simp [World.setCell]
    obtain ⟨w4, hw4e⟩ : ∃ w4, w4 = w3.setCell ⟨w.heap.size, ka, none⟩ (.int .u8 ((nb.toNat : Nat) : Int)) := ⟨_, rfl⟩
    rw [← hw4e] at hw4 HR4 hsz
    have HR4' : Hid (Row w4 (some ⟨w.heap.size, 0, none⟩) (la + lt) (cutBytes f h la ka xb)) := HR4
    have HE4 : Hid (w4 = w3.setCell ⟨w.heap.size, ka, none⟩ (.int .u8 ((nb.toNat : Nat) : Int))) := hw4e
    clear hw4e HR4
    go_wp2_with fail
    rw [← HE4.out]
    clear HE4
    refine (shared_any a (some ⟨w.heap.size, 0, none⟩) la ca (la + lt) (la + lt) f (cutBytes f h la ka xb) _ (HA.out.below hw4) HR4'.out (by omega) (by omega) hca (Nat.le_refl _)).mono ?_
    rintro e w5 ⟨k1, rfl, hk1, hb5⟩
    obtain rfl : ka = k1 := (cut_shared f h la lt ka xb hkl).uniq hk1
    clear hk1
    have hb5' : Below w.heap.size w w5 := hw4.trans (hb5.mono (by omega))
    have HR5 : Hid (Row w5 (some ⟨w.heap.size, 0, none⟩) (la + lt) (cutBytes f h la ka xb)) := HR4'.out.below hb5
    clear hb5 hw4 HR4' hcell hfz hbits
    go_wp2_with fail
    refine (shared_any (some ⟨w.heap.size, 0, none⟩) a (la + lt) (la + lt) la ca (cutBytes f h la ka xb) f _ HR5.out (HA.out.below hb5') (by omega) (by omega) (Nat.le_refl _) hca).mono ?_
    rintro e w6 ⟨k2, rfl, hk2, hb6⟩
    rw [Nat.min_comm] at hk2
    obtain rfl : ka = k2 := (cut_shared f h la lt ka xb hkl).uniq hk2.symm
    clear hk2
    go_wp2
    go_ret
    exact ⟨rfl, hb5'.trans (hb6.mono hb5'.size)⟩
  · obtain rfl : ka = la := by omega
    have q3 : ¬ (ka : Int) < (ka : Int) := by omega
    have HR4 : Hid (Row w3 (some ⟨w.heap.size, 0, none⟩) (ka + lt) (cutBytes f h ka ka xb)) := row_plain (w3 := w3) (B := w.heap.size) (la := ka) (lt := lt) (f := f) (h := h) (by rw [← HX.out, ← HY.out]; exact HO3.out) xb
    go_wp2_with fail
    refine (shared_any a (some ⟨w.heap.size, 0, none⟩) ka ca (ka + lt) (ka + lt) f (cutBytes f h ka ka xb) _ (HA.out.below hb3) HR4.out (by omega) (by omega) hca (Nat.le_refl _)).mono ?_
    rintro e w5 ⟨k1, rfl, hk1, hb5⟩
    obtain rfl : ka = k1 := (cut_shared f h ka lt ka xb hkl).uniq hk1
    clear hk1
    have hb5' : Below w.heap.size w w5 := hb3.trans (hb5.mono (by omega))
    have HR5 : Hid (Row w5 (some ⟨w.heap.size, 0, none⟩) (ka + lt) (cutBytes f h ka ka xb)) := HR4.out.below hb5
    clear hb5
    go_wp2_with fail
    refine (shared_any (some ⟨w.heap.size, 0, none⟩) a (ka + lt) (ka + lt) ka ca (cutBytes f h ka ka xb) f _ HR5.out (HA.out.below hb5') (by omega) (by omega) (Nat.le_refl _) hca).mono ?_
    rintro e w6 ⟨k2, rfl, hk2, hb6⟩
    rw [Nat.min_comm] at hk2
    obtain rfl : ka = k2 := (cut_shared f h ka lt ka xb hkl).uniq hk2.symm
    clear hk2
    go_wp2
    go_ret
    exact ⟨rfl, hb5'.trans (hb6.mono hb5'.size)⟩
end Go.Proofs.Ybulkatrg.Sh
