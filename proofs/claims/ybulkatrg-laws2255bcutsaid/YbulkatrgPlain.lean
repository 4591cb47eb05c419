import Derived.Test.YbulkatrgProg
import Derived.WalkKit
import Derived.WalkSpells
import Derived.RegionTactic
import Derived.Deep.QuietTactic
import Derived.BigQuiet
import Derived.Lib.EndianZ
namespace Go.Proofs.Ybulkatrg.Sh
open Go.RowKit

/-- k is the length of the common beginning of f and g, counted up to n. -/
def IsShared (f g : Nat → UInt8) (n k : Nat) : Prop := k ≤ n ∧ (∀ i, i < k → f i = g i) ∧ (k < n → f k ≠ g k)

theorem IsShared.uniq {f g : Nat → UInt8} {n k l : Nat} (h : IsShared f g n k) (h' : IsShared f g n l) : k = l := by
  obtain ⟨h1, h2, h3⟩ := h
  obtain ⟨p1, p2, p3⟩ := h'
  rcases Nat.lt_trichotomy k l with h | h | h
  · exact absurd (p2 k h) (h3 (by omega))
  · exact h
  · exact absurd (h2 l h) (p3 (by omega))

theorem IsShared.symm {f g : Nat → UInt8} {n k : Nat} (h : IsShared f g n k) : IsShared g f n k :=
  ⟨h.1, fun i hi => (h.2.1 i hi).symm, fun hk e => h.2.2 hk e.symm⟩

/-- What is known of a slice of bytes: without elements, or its elements' cells. -/
def Row (w : World) (a : Option Addr) (n : Nat) (f : Nat → UInt8) : Prop :=
  n = 0 ∨ ∃ g o, a = some ⟨g, o, none⟩ ∧ ∀ i, i < n → w.cell? ⟨g, o + i, none⟩ = some (.int .u8 ((f i).toNat : Int))

theorem cell_block {w : World} {p : Addr} {v : Value} (h : w.cell? p = some v) : p.block < w.heap.size := by
  rcases Nat.lt_or_ge p.block w.heap.size with h1 | h1
  · exact h1
  · have : w.heap[p.block]? = none := by simp [h1]
    simp [World.cell?, this] at h

theorem Row.below {w w' : World} {a : Option Addr} {n : Nat} {f : Nat → UInt8} (h : Row w a n f) (hb : Below w.heap.size w w') : Row w' a n f := by
  rcases h with h | ⟨g, o, rfl, hc⟩
  · exact .inl h
  · refine .inr ⟨g, o, rfl, fun i hi => ?_⟩
    rw [hb.cell (cell_block (hc i hi))]
    exact hc i hi

theorem u8eq (x y : UInt8) : (((x.toNat : Int)) == ((y.toNat : Int))) = decide (x = y) := by
  rw [Bool.eq_iff_iff]
  simp only [beq_iff_eq, decide_eq_true_eq, Int.ofNat_inj, UInt8.toNat_inj]

theorem snoc {f g : Nat → UInt8} {k : Nat} (h : ∀ j, j < k → f j = g j) (hk : f k = g k) : ∀ j, j < k + 1 → f j = g j := by
  intro j hj
  rcases Nat.lt_or_ge j k with h1 | h1
  · exact h j h1
  · obtain rfl : j = k := by omega
    exact hk

theorem bdrewN {B : Nat} {a w : World} (h : Below B a w) (n : Nat) : Below B a (w.drewN n) := ⟨h.os, h.tape, h.output, h.size, h.block⟩

set_option maxHeartbeats 800000 in
/-- 'zzs2255bplain': byte by byte. -/
theorem plain_any (a b : Option Addr) (la ca lb cb : Nat) (f g : Nat → UInt8) (w : World) (ha : Row w a la f) (hb : Row w b lb g) (hla : la ≤ 1048576) (hlb : lb ≤ 4194304) :
    Calls Yba.prog 10 #[.slice a la ca, .slice b lb cb] w fun e w' => ∃ k : Nat, e = .returned (.int .i64 k) ∧ IsShared f g (min la lb) k ∧ Below w.heap.size w w' := by
  have HA : Hid (Row w a la f) := ha
  have HB : Hid (Row w b lb g) := hb
  clear ha hb
  obtain ⟨n, hn⟩ : ∃ n, n = min la lb := ⟨_, rfl⟩
  rw [← hn]
  by_cases hlt : lb < la
  · have hlt' : (lb : Int) < (la : Int) := by omega
    obtain rfl : n = lb := by omega
    clear hn
    go_enter Yba.func10, Yba.ntmps10
    go_wp2
    go_loopw [6] (fun i wr => ∃ k : Nat, k ≤ n ∧ i = .int .i64 k ∧ (∀ j, j < k → f j = g j) ∧ Below w.heap.size w wr) (fun i _ => n - (intOf i).toNat)
    case atStart => exact ⟨0, Nat.zero_le _, rfl, fun j hj => absurd hj (Nat.not_lt_zero _), Below.refl _ _⟩
    case round =>
      obtain ⟨k, hk, rfl, heq, hnx⟩ := hrel
      have HEQ : Hid (∀ j, j < k → f j = g j) := heq
      clear heq
      by_cases hkn : k < n
      · have hA := (HA.out).below hnx
        have hB := (HB.out).below hnx
        rcases hA with hA | ⟨ga, oa, rfl, hA⟩
        · omega
        rcases hB with hB | ⟨gb, ob, rfl, hB⟩
        · omega
        have cA := hA k (by omega)
        have cB := hB k (by omega)
        clear hA hB
        have q1 : (k : Int) < (la : Int) := by omega
        have q2 : (k : Int) < (n : Int) := by omega
        by_cases he : f k = g k
        · have hd : (((f k).toNat : Int) == ((g k).toNat : Int)) = true := by rw [u8eq]; simp [he]
          have HE : Hid (f k = g k) := he
          clear he
          go_wp2
          go_quiet (fail)
          go_wp2
          go_roundw
          case rel => exact ⟨k + 1, by omega, by go_num, snoc HEQ.out HE.out, bdrewN hnx _⟩
          case measure => simp [intOf]; omega
        · have hd : (((f k).toNat : Int) == ((g k).toNat : Int)) = false := by rw [u8eq]; simp [he]
          have HE : Hid (f k ≠ g k) := he
          clear he
          go_wp2
          go_quiet (fail)
          go_wp2
          go_ret
          exact ⟨k, rfl, ⟨hk, HEQ.out, fun _ => HE.out⟩, bdrewN hnx _⟩
      · have hd : decide ((k : Int) < (n : Int)) = false := by simp; omega
        go_wp2
        go_quiet (fail)
        go_wp2
        go_ret
        exact ⟨k, rfl, ⟨hk, HEQ.out, fun h => absurd h hkn⟩, bdrewN hnx _⟩
  · have hlt' : ¬ (lb : Int) < (la : Int) := by omega
    obtain rfl : n = la := by omega
    clear hn
    go_enter Yba.func10, Yba.ntmps10
    go_wp2
    go_loopw [6] (fun i wr => ∃ k : Nat, k ≤ n ∧ i = .int .i64 k ∧ (∀ j, j < k → f j = g j) ∧ Below w.heap.size w wr) (fun i _ => n - (intOf i).toNat)
    case atStart => exact ⟨0, Nat.zero_le _, rfl, fun j hj => absurd hj (Nat.not_lt_zero _), Below.refl _ _⟩
    case round =>
      obtain ⟨k, hk, rfl, heq, hnx⟩ := hrel
      have HEQ : Hid (∀ j, j < k → f j = g j) := heq
      clear heq
      by_cases hkn : k < n
      · have hA := (HA.out).below hnx
        have hB := (HB.out).below hnx
        rcases hA with hA | ⟨ga, oa, rfl, hA⟩
        · omega
        rcases hB with hB | ⟨gb, ob, rfl, hB⟩
        · omega
        have cA := hA k (by omega)
        have cB := hB k (by omega)
        clear hA hB
        have q1 : (k : Int) < (lb : Int) := by omega
        have q2 : (k : Int) < (n : Int) := by omega
        by_cases he : f k = g k
        · have hd : (((f k).toNat : Int) == ((g k).toNat : Int)) = true := by rw [u8eq]; simp [he]
          have HE : Hid (f k = g k) := he
          clear he
          go_wp2
          go_quiet (fail)
          go_wp2
          go_roundw
          case rel => exact ⟨k + 1, by omega, by go_num, snoc HEQ.out HE.out, bdrewN hnx _⟩
          case measure => simp [intOf]; omega
        · have hd : (((f k).toNat : Int) == ((g k).toNat : Int)) = false := by rw [u8eq]; simp [he]
          have HE : Hid (f k ≠ g k) := he
          clear he
          go_wp2
          go_quiet (fail)
          go_wp2
          go_ret
          exact ⟨k, rfl, ⟨hk, HEQ.out, fun _ => HE.out⟩, bdrewN hnx _⟩
      · have hd : decide ((k : Int) < (n : Int)) = false := by simp; omega
        go_wp2
        go_quiet (fail)
        go_wp2
        go_ret
        exact ⟨k, rfl, ⟨hk, HEQ.out, fun h => absurd h hkn⟩, bdrewN hnx _⟩
end Go.Proofs.Ybulkatrg.Sh
