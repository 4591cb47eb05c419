import Derived.Test.YbulkatrgPlain
import Derived.Test.YbulkatrgShelf
import Derived.Deep.RegionHeld3
import Derived.Deep.DrawnRows
import Derived.Deep.DeepMust
import Derived.Deep.DeepFit
namespace Go.Proofs.Ybulkatrg.Sh
open Go.RowKit
set_option linter.unusedVariables false

/-- The number that eight bytes spell. -/
def le8 (f : Nat → UInt8) : Nat := Lib.leNat [f 0, f 1, f 2, f 3, f 4, f 5, f 6, f 7]

theorem leNat_inj : ∀ (l m : List UInt8), l.length = m.length → Lib.leNat l = Lib.leNat m → l = m
  | [], [], _, _ => rfl
  | [], _ :: _, h, _ => by simp at h
  | _ :: _, [], h, _ => by simp at h
  | x :: l, y :: m, h, e => by
    have hx := x.toNat_lt
    have hy := y.toNat_lt
    simp only [Lib.leNat] at e
    have e1 : x.toNat = y.toNat := by omega
    have e2 : Lib.leNat l = Lib.leNat m := by omega
    rw [UInt8.toNat_inj.1 e1, leNat_inj l m (by simpa using h) e2]

theorem le8_inj {f g : Nat → UInt8} (h : le8 f = le8 g) : ∀ i, i < 8 → f i = g i := by
  have e := leNat_inj [f 0, f 1, f 2, f 3, f 4, f 5, f 6, f 7] [g 0, g 1, g 2, g 3, g 4, g 5, g 6, g 7] rfl h
  simp only [List.cons.injEq] at e
  obtain ⟨e0, e1, e2, e3, e4, e5, e6, e7, _⟩ := e
  intro i hi
  rcases (show i = 0 ∨ i = 1 ∨ i = 2 ∨ i = 3 ∨ i = 4 ∨ i = 5 ∨ i = 6 ∨ i = 7 from by omega) with rfl | rfl | rfl | rfl | rfl | rfl | rfl | rfl <;> assumption

theorem u64_at (g o n c : Nat) (f : Nat → UInt8) (w : World) (hn : 8 ≤ n) (hc : ∀ i, i < 8 → w.cell? ⟨g, o + i, none⟩ = some (.int .u8 ((f i).toNat : Int))) :
    Calls Yba.prog 17 #[.agg #[], .slice (some ⟨g, o, none⟩) n c] w fun e w' => e = .returned (.int .u64 (le8 f)) ∧ Below w.heap.size w w' :=
  Yba.binary_LE_Uint64 g o n c (f 0) (f 1) (f 2) (f 3) (f 4) (f 5) (f 6) (f 7) w hn (hc 0 (by omega)) (hc 1 (by omega)) (hc 2 (by omega)) (hc 3 (by omega)) (hc 4 (by omega)) (hc 5 (by omega)) (hc 6 (by omega)) (hc 7 (by omega))

theorem u64_from (w0 : World) (ga oa la : Nat) (f : Nat → UInt8) (k n c x : Nat) (hA : Hid (∀ i, i < la → w0.cell? ⟨ga, oa + i, none⟩ = some (.int .u8 ((f i).toNat : Int)))) (hx : Hid (x = le8 fun i => f (k + i)))
    (hk : k + 8 ≤ la) (hn : 8 ≤ n) (W : World) (hW : Below w0.heap.size w0 W) :
    Calls Yba.prog 17 #[.agg #[], .slice (some ⟨ga, oa + k, none⟩) n c] W fun e w' => e = .returned (.int .u64 x) ∧ Below w0.heap.size w0 w' := by
  rw [hx.out]
  refine (u64_at ga (oa + k) n c (fun i => f (k + i)) W hn (fun i hi => ?_)).mono ?_
  · have h := hA.out (k + i) (by omega)
    rw [hW.cell (cell_block (p := ⟨ga, oa + k + i, none⟩) (by rw [Nat.add_assoc]; exact h)), Nat.add_assoc]
    exact h
  · rintro e w' ⟨rfl, hb⟩
    exact ⟨rfl, hW.trans (hb.mono hW.size)⟩

theorem snoc8 {f g : Nat → UInt8} {k : Nat} (h : ∀ j, j < k → f j = g j) (h8 : ∀ i, i < 8 → f (k + i) = g (k + i)) : ∀ j, j < k + 8 → f j = g j := by
  intro j hj
  rcases Nat.lt_or_ge j k with h1 | h1
  · exact h j h1
  · have := h8 (j - k) (by omega)
    rwa [show k + (j - k) = j by omega] at this

attribute [local go_sem ↓] Go.wp_at_zero Go.wp_at_succ

set_option maxHeartbeats 800000 in
theorem shared_any (a b : Option Addr) (la ca lb cb : Nat) (f g : Nat → UInt8) (w : World) (ha : Row w a la f) (hb : Row w b lb g) (hla : la ≤ 4194304) (hlb : lb ≤ 4194304) (hca : la ≤ ca) (hcb : lb ≤ cb) :
    Calls Yba.prog 11 #[.slice a la ca, .slice b lb cb] w fun e w' => ∃ k : Nat, e = .returned (.int .i64 k) ∧ IsShared f g (min la lb) k ∧ Below w.heap.size w w' := by
  have HA : Hid (Row w a la f) := ha
  have HB : Hid (Row w b lb g) := hb
  clear ha hb
  obtain ⟨n, hn⟩ : ∃ n, n = min la lb := ⟨_, rfl⟩
  rw [← hn]
  have hmin : min (la : Int) (lb : Int) = (n : Int) := by omega
  have hna : n ≤ la := by omega
  have hnb : n ≤ lb := by omega
  clear hn
  go_enter Yba.func11, Yba.ntmps11
  go_wp2
  go_loopw [6] (fun i wr => ∃ k : Nat, k ≤ n ∧ i = .int .i64 k ∧ (∀ j, j < k → f j = g j) ∧ Below w.heap.size w wr) (fun i _ => n - (intOf i).toNat)
  case atStart => exact ⟨0, Nat.zero_le _, rfl, fun j hj => absurd hj (Nat.not_lt_zero _), Below.refl _ _⟩
  case round =>
    obtain ⟨k, hk, rfl, heq, hnx⟩ := hrel
    have HEQ : Hid (∀ j, j < k → f j = g j) := heq
    clear heq
    by_cases hkn : k + 8 ≤ n
    · have hA := HA.out
      have hB := HB.out
      rcases hA with hA | ⟨ga, oa, rfl, hA⟩
      · omega
      rcases hB with hB | ⟨gb, ob, rfl, hB⟩
      · omega
      have HcA : Hid (∀ i, i < la → w.cell? ⟨ga, oa + i, none⟩ = some (.int .u8 ((f i).toNat : Int))) := hA
      have HcB : Hid (∀ i, i < lb → w.cell? ⟨gb, ob + i, none⟩ = some (.int .u8 ((g i).toNat : Int))) := hB
      clear hA hB
      obtain ⟨x, hx⟩ : ∃ x, x = le8 fun i => f (k + i) := ⟨_, rfl⟩
      obtain ⟨y, hy⟩ : ∃ y, y = le8 fun i => g (k + i) := ⟨_, rfl⟩
      have HX : Hid (x = le8 fun i => f (k + i)) := hx
      have HY : Hid (y = le8 fun i => g (k + i)) := hy
      clear hx hy
      have qw : IntKind.i64.wrap ((k : Int) + 8) = (k : Int) + 8 := by rw [IntKind.wrap_i64]; omega
      have q0 : (k : Int) + 8 ≤ (n : Int) := by omega
      have qd : decide ((k : Int) + 8 ≤ (n : Int)) = true := by simp; omega
      have q1 : (k : Int) ≤ (la : Int) := by omega
      have q2 : (k : Int) ≤ (lb : Int) := by omega
      have q3 : ¬ ca = k := by omega
      have q4 : ¬ cb = k := by omega
      by_cases hxy : x = y
      · have hd8 : ((x : Int) == (y : Int)) = true := by simp [hxy]
        have HXY : Hid (x = y) := hxy
        clear hxy
        go_wp2
        go_region_held3 (fun w' => Below w.heap.size w w') (first | exact hnx.drew | assumption)
          (first
            | (go_at_call_of 17 (Value.slice (some ⟨ga, oa + k, none⟩) (la - k) (ca - k)); refine (u64_from w ga oa la f k _ _ x HcA HX (by omega) (by omega) _ ?_).mono ?_; assumption; rintro e w1 ⟨rfl, hb1⟩)
            | (go_at_call_of 17 (Value.slice (some ⟨gb, ob + k, none⟩) (lb - k) (cb - k)); refine (u64_from w gb ob lb g k _ _ y HcB HY (by omega) (by omega) _ ?_).mono ?_; assumption; rintro e w2 ⟨rfl, hb2⟩))
        go_wp2
        go_roundw
        case rel => exact ⟨k + 8, by omega, by go_num, snoc8 HEQ.out (le8_inj (HX.out.symm.trans (HXY.out.trans HY.out))), by assumption⟩
        case measure => simp [intOf]; omega
      · have hd8 : ((x : Int) == (y : Int)) = false := by simp; omega
        have HXY : Hid (¬ x = y) := hxy
        clear hxy
        go_wp2
        go_region_held3 (fun w' => Below w.heap.size w w') (first | exact hnx.drew | assumption)
          (first
            | (go_at_call_of 17 (Value.slice (some ⟨ga, oa + k, none⟩) (la - k) (ca - k)); refine (u64_from w ga oa la f k _ _ x HcA HX (by omega) (by omega) _ ?_).mono ?_; assumption; rintro e w1 ⟨rfl, hb1⟩)
            | (go_at_call_of 17 (Value.slice (some ⟨gb, ob + k, none⟩) (lb - k) (cb - k)); refine (u64_from w gb ob lb g k _ _ y HcB HY (by omega) (by omega) _ ?_).mono ?_; assumption; rintro e w2 ⟨rfl, hb2⟩))
        go_wp2
        clear qw q0 qd q1 q2 q3 q4 hd8 HX HY HXY HcA HcB hkn
        go_loopw [6] (fun i wt => ∃ k : Nat, k ≤ n ∧ i = .int .i64 k ∧ (∀ j, j < k → f j = g j) ∧ Below w.heap.size w wt) (fun i _ => n - (intOf i).toNat)
        case atStart => exact ⟨k, hk, rfl, HEQ.out, by assumption⟩
        case round =>
          obtain ⟨m, hm, rfl, heq2, hnx2⟩ := hrel
          have HEQ2 : Hid (∀ j, j < m → f j = g j) := heq2
          clear heq2 HEQ
          by_cases hmn : m < n
          · have hA := (HA.out).below hnx2
            have hB := (HB.out).below hnx2
            rcases hA with hA | ⟨ga', oa', ea, hA⟩
            · omega
            rcases hB with hB | ⟨gb', ob', eb, hB⟩
            · omega
            obtain ⟨rfl, rfl⟩ : ga' = ga ∧ oa' = oa := by simp at ea; exact ⟨ea.1.symm, ea.2.symm⟩
            obtain ⟨rfl, rfl⟩ : gb' = gb ∧ ob' = ob := by simp at eb; exact ⟨eb.1.symm, eb.2.symm⟩
            have cA := hA m (by omega)
            have cB := hB m (by omega)
            clear hA hB
            have r1 : (m : Int) < (la : Int) := by omega
            have r2 : (m : Int) < (lb : Int) := by omega
            have r3 : (m : Int) < (n : Int) := by omega
            by_cases he : f m = g m
            · have hd : (((f m).toNat : Int) == ((g m).toNat : Int)) = true := by rw [u8eq]; simp [he]
              have HE : Hid (f m = g m) := he
              clear he
              go_wp2
              go_quiet (fail)
              go_wp2
              go_roundw
              case rel => exact ⟨m + 1, by omega, by go_num, snoc HEQ2.out HE.out, bdrewN hnx2 _⟩
              case measure => simp [intOf]; omega
            · have hd : (((f m).toNat : Int) == ((g m).toNat : Int)) = false := by rw [u8eq]; simp [he]
              have HE : Hid (f m ≠ g m) := he
              clear he
              go_wp2
              go_quiet (fail)
              go_wp2
              go_ret
              exact ⟨m, rfl, ⟨hm, HEQ2.out, fun _ => HE.out⟩, bdrewN hnx2 _⟩
          · have hd : decide ((m : Int) < (n : Int)) = false := by simp; omega
            go_wp2
            go_quiet (fail)
            go_wp2
            go_ret
            exact ⟨m, rfl, ⟨hm, HEQ2.out, fun h => absurd h hmn⟩, bdrewN hnx2 _⟩
    · have qw : IntKind.i64.wrap ((k : Int) + 8) = (k : Int) + 8 := by rw [IntKind.wrap_i64]; omega
      have qd : decide ((k : Int) + 8 ≤ (n : Int)) = false := by simp; omega
      go_wp2
      go_quiet (fail)
      go_wp2
      clear qw qd
      go_loopw [6] (fun i wt => ∃ k : Nat, k ≤ n ∧ i = .int .i64 k ∧ (∀ j, j < k → f j = g j) ∧ Below w.heap.size w wt) (fun i _ => n - (intOf i).toNat)
      case atStart => exact ⟨k, hk, rfl, HEQ.out, bdrewN hnx _⟩
      case round =>
        obtain ⟨m, hm, rfl, heq2, hnx2⟩ := hrel
        have HEQ2 : Hid (∀ j, j < m → f j = g j) := heq2
        clear heq2 HEQ
        by_cases hmn : m < n
        · have hA := (HA.out).below hnx2
          have hB := (HB.out).below hnx2
          rcases hA with hA | ⟨ga', oa', ea, hA⟩
          · omega
          rcases hB with hB | ⟨gb', ob', eb, hB⟩
          · omega
          subst ea; subst eb
          have cA := hA m (by omega)
          have cB := hB m (by omega)
          clear hA hB
          have r1 : (m : Int) < (la : Int) := by omega
          have r2 : (m : Int) < (lb : Int) := by omega
          have r3 : (m : Int) < (n : Int) := by omega
          by_cases he : f m = g m
          · have hd : (((f m).toNat : Int) == ((g m).toNat : Int)) = true := by rw [u8eq]; simp [he]
            have HE : Hid (f m = g m) := he
            clear he
            go_wp2
            go_quiet (fail)
            go_wp2
            go_roundw
            case rel => exact ⟨m + 1, by omega, by go_num, snoc HEQ2.out HE.out, bdrewN hnx2 _⟩
            case measure => simp [intOf]; omega
          · have hd : (((f m).toNat : Int) == ((g m).toNat : Int)) = false := by rw [u8eq]; simp [he]
            have HE : Hid (f m ≠ g m) := he
            clear he
            go_wp2
            go_quiet (fail)
            go_wp2
            go_ret
            exact ⟨m, rfl, ⟨hm, HEQ2.out, fun _ => HE.out⟩, bdrewN hnx2 _⟩
        · have hd : decide ((m : Int) < (n : Int)) = false := by simp; omega
          go_wp2
          go_quiet (fail)
          go_wp2
          go_ret
          exact ⟨m, rfl, ⟨hm, HEQ2.out, fun h => absurd h hmn⟩, bdrewN hnx2 _⟩
end Go.Proofs.Ybulkatrg.Sh
