import Derived.Test.YbulkatswDoorChunk
namespace Go.Proofs.YbulkatswDoor.Dw
open Go.RowKit
set_option linter.unusedVariables false

/-- What is known of a slice of slices of bytes: its elements. -/
def Full (w : World) (fa : Option Addr) (cs : List Ch) : Prop :=
  cs = [] ∨ ∃ g o, fa = some ⟨g, o, none⟩ ∧ ∀ i (h : i < cs.length), w.cell? ⟨g, o + i, none⟩ = some cs[i].val

theorem Full.below {w w' : World} {fa : Option Addr} {cs : List Ch} (h : Full w fa cs) (hb : Below w.heap.size w w') : Full w' fa cs := by
  rcases h with h | ⟨g, o, e, hc⟩
  · exact .inl h
  · refine .inr ⟨g, o, e, fun i hi => ?_⟩
    rw [hb.cell (cell_block (hc i hi))]
    exact hc i hi

/-- What 'toobig' says. -/
def BigSaid (n tn : Nat) (cs : List Ch) (e : Ending) : Prop := ∃ b, e = .returned (.bool b) ∧ (b = false → n ≤ 1024 ∧ tn ≤ 65536 ∧ ∀ x ∈ cs, x.n ≤ 65536)

set_option maxHeartbeats 400000 in
theorem toobig_any (fa ta : Option Addr) (n fc tn tc : Nat) (cs : List Ch) (w : World) (hf : Full w fa cs) (hn : n = cs.length) :
    Calls Ybad.prog 5 #[.slice fa n fc, .slice ta tn tc] w fun e w' => BigSaid n tn cs e ∧ w' = w := by
  have HF := Hid.mk hf
  have HN := Hid.mk hn
  clear hf hn
  by_cases h0 : 1024 < n
  · have q0 : (1024 : Int) < (n : Int) := by omega
    go_enter Ybad.func5, Ybad.ntmps5
    go_wp2
    go_ret
    exact ⟨⟨true, rfl, fun h => by cases h⟩, rfl⟩
  by_cases h1 : 65536 < tn
  · have q0 : ¬ (1024 : Int) < (n : Int) := by omega
    have q1 : (65536 : Int) < (tn : Int) := by omega
    go_enter Ybad.func5, Ybad.ntmps5
    go_wp2
    go_ret
    exact ⟨⟨true, rfl, fun h => by cases h⟩, rfl⟩
  have q0 : ¬ (1024 : Int) < (n : Int) := by omega
  have q1 : ¬ (65536 : Int) < (tn : Int) := by omega
  go_enter Ybad.func5, Ybad.ntmps5
  go_wp2
  go_loop [16] (fun i => ∃ k : Nat, k ≤ n ∧ i = .int .i64 k ∧ ∀ j (h : j < cs.length), j < k → cs[j].n ≤ 65536) (fun i => n - (intOf i).toNat)
  case atStart => exact ⟨0, Nat.zero_le _, rfl, fun j _ hj => absurd hj (Nat.not_lt_zero _)⟩
  case round =>
    obtain ⟨k, hk, rfl, hall⟩ := hrel
    have HALL := Hid.mk hall
    clear hall
    by_cases hlt : k < n
    · have hkc : k < cs.length := by have := HN.out; omega
      have q2 : (k : Int) < (n : Int) := by omega
      rcases HF.out with e | ⟨g, o, rfl, hc⟩
      · rw [e] at hkc; exact absurd hkc (Nat.not_lt_zero _)
      have ck := hc k hkc
      obtain ⟨xa, xn, xc, xf, hx⟩ : ∃ xa xn xc xf, cs[k] = ⟨xa, xn, xc, xf⟩ := ⟨_, _, _, _, rfl⟩
      rw [hx] at ck
      have ck' : w.cell? ⟨g, o + k, none⟩ = some (.slice xa xn xc) := ck
      have HX := Hid.mk hx
      clear ck hc hx
      by_cases hbig : 65536 < xn
      · have q3 : (65536 : Int) < (xn : Int) := by omega
        go_wp2
        go_ret
        exact ⟨⟨true, rfl, fun h => by cases h⟩, rfl⟩
      · have q3 : ¬ (65536 : Int) < (xn : Int) := by omega
        go_wp2
        go_round
        case rel =>
          refine ⟨k + 1, by omega, by go_num, fun j hj hjk => ?_⟩
          rcases Nat.lt_or_ge j k with h2 | h2
          · exact HALL.out j hj h2
          · obtain rfl : j = k := by omega
            rw [HX.out]; show xn ≤ 65536; omega
        case measure => simp [intOf]; omega
    · have q2 : ¬ (k : Int) < (n : Int) := by omega
      go_wp2
      go_ret
      refine ⟨⟨false, rfl, fun _ => ⟨by omega, by omega, fun x hx => ?_⟩⟩, rfl⟩
      obtain ⟨j, hj, rfl⟩ := List.getElem_of_mem hx
      exact HALL.out j hj (by have := HN.out; omega)

/-- 'achunk(full, text, i)', i inside. -/
theorem chunk_in (fa ta : Option Addr) (n fc tn tc k : Nat) (cs : List Ch) (w : World) (hf : Full w fa cs) (hn : n = cs.length) (hk : k < n) (xa : Option Addr) (xn xc : Nat) (xf : Nat → UInt8) (hx : cs[k]? = some ⟨xa, xn, xc, xf⟩) :
    Calls Ybad.prog 10 #[.slice fa n fc, .slice ta tn tc, .int .i64 k] w fun e w' => e = .returned (.slice xa xn xc) ∧ w' = w := by
  have hkc : k < cs.length := by omega
  rcases hf with e | ⟨g, o, rfl, hc⟩
  · rw [e] at hkc; exact absurd hkc (Nat.not_lt_zero _)
  have ck := hc k hkc
  rw [List.getElem?_eq_getElem hkc] at hx
  rw [Option.some.inj hx] at ck
  have ck' : w.cell? ⟨g, o + k, none⟩ = some (.slice xa xn xc) := ck
  have q2 : (k : Int) < (n : Int) := by omega
  clear ck hc hx hn
  go_enter Ybad.func10, Ybad.ntmps10
  go_wp2
  go_ret
  exact ⟨rfl, rfl⟩

theorem chunk_end (fa ta : Option Addr) (n fc tn tc : Nat) (w : World) :
    Calls Ybad.prog 10 #[.slice fa n fc, .slice ta tn tc, .int .i64 n] w fun e w' => e = .returned (.slice ta tn tc) ∧ w' = w := by
  have q2 : ¬ (n : Int) < (n : Int) := by omega
  go_enter Ybad.func10, Ybad.ntmps10
  go_wp2
  go_ret
  exact ⟨rfl, rfl⟩

/-- The numbers of n bytes. -/
def nums (f : Nat → UInt8) (n : Nat) : List Int := (List.range n).map fun i => ((f i).toNat : Int)

theorem Ch.ok.bytes {w : World} {x : Ch} (h : x.ok w) : Lib.BytesIn w x.a x.n (nums x.f x.n) := by
  intro hn
  rcases h.1 with h0 | ⟨g, o, e, hc⟩
  · omega
  · refine ⟨g, o, e, fun i hi => ?_⟩
    rw [hc i hi]
    simp [nums, hi]

/-- 'bytes.Equal' of two slices of the same bytes. -/
theorem equal_same (a b : Option Addr) (n c d : Nat) (f : Nat → UInt8) (w : World) (ha : Ch.ok w ⟨a, n, c, f⟩) (hb : Ch.ok w ⟨b, n, d, f⟩) :
    Calls Ybad.prog 11 #[.slice a n c, .slice b n d] w fun e w' => e = .returned (.bool true) ∧ w' = w := by
  have k1 := (ha.bytes).convert (P := Ybad.prog) (by simp [nums]) c 23 5 9 Ybad.underlying23 Ybad.underlying5 Ybad.underlying9
  have k2 := (hb.bytes).convert (P := Ybad.prog) (by simp [nums]) d 23 5 9 Ybad.underlying23 Ybad.underlying5 Ybad.underlying9
  simp only at k1 k2
  generalize strOfNums (nums f n) = s at k1 k2
  clear ha hb
  go_enter Ybad.func11, Ybad.ntmps11
  go_wp2
  go_ret
  exact ⟨rfl, rfl⟩
end Go.Proofs.YbulkatswDoor.Dw
