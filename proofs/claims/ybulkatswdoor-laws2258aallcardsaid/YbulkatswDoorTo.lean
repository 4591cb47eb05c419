import Derived.Test.YbulkatswDoorWrite
import Derived.Deep.RegionHeld3
namespace Go.Proofs.YbulkatswDoor.Dw
open Go.RowKit
set_option linter.unusedVariables false

def ne (x : Ch) : Bool := decide (0 < x.n)

/-- A block of another type than 23 is as it was behind the append. -/
theorem blk_grown {w w2 : World} {B : Nat} {v : Value} {n k : Nat} {xs : List Value} {c : Array Value} {t : TypeId} (ho : w.ownsRow B 23 1 v n xs) (o : Obj) (hg : (w.alloc o).grownBy w2 v.ownBlock) (hk : w.heap[k]? = some (.cells c t (0, 0))) (ht : t ≠ 23) :
    w2.heap[k]? = some (.cells c t (0, 0)) := by
  have hlt := heap_lt hk
  rw [hg.block k (by simp; omega) ?_, Below.heap_alloc _ _ _ hlt]
  · exact hk
  · intro e
    obtain ⟨c', hc'⟩ := own_blk ho e.symm
    rw [hk] at hc'
    injection hc' with hc'
    injection hc' with _ hc'
    exact ht hc'

/-- What holds at the head of the writing loop: w2: the world in which it began. -/
def Writing (w2 wr : World) (wb j : Nat) (fv : Value) (all lc : List Ch) : Prop :=
  ∃ lv, St wr w2.heap.size wb lc.length fv lv lc ∧ sig lc = sig ((all.take j).filter ne) ∧ BelowBut w2.heap.size wb w2 wr ∧ Keeps5 w2 wr

theorem filter_take_succ (all : List Ch) (j : Nat) (x : Ch) (h : all[j]? = some x) : (all.take (j + 1)).filter ne = (all.take j).filter ne ++ if ne x then [x] else [] := by
  obtain ⟨hk, e⟩ := List.getElem?_eq_some_iff.1 h
  rw [List.take_succ_eq_append_getElem hk, List.filter_append, e]
  cases hb : ne x <;> simp [hb]

/-- What 'writeTo' says. -/
def ToSaid (B : Nat) (w w' : World) (wb : Nat) (fv : Value) (all : List Ch) : Prop :=
  ∃ base lv lc, St w' base wb lc.length fv lv lc ∧ sig lc = sig (all.filter ne) ∧ BelowBut B wb w w'

theorem method_write (a : Addr) (w : World) : (method 172 30 (.pointer (some a)) "Write").run Ybad.prog w = .ok (28, .pointer (some a)) w := by kernel_rfl

attribute [local go_sem ↓] Go.wp_at_zero Go.wp_at_succ

set_option maxHeartbeats 1600000 in
theorem to_any (B pb wb n tn tc : Nat) (ta : Option Addr) (tf : Nat → UInt8) (fl fv : Value) (cs : List Ch) (w : World) (hn : n = cs.length) (h1024 : n ≤ 1024)
    (hp : w.heap[pb]? = some (.cells #[fl, .slice ta tn tc, .int .i64 0, .slice none 0 0] 29 (0, 0))) (hw : w.heap[wb]? = some (.cells #[.slice none 0 0, .int .i64 0, .slice none 0 0, fv] 35 (0, 0)))
    (hfl : w.ownsRow B 23 1 fl n (vals cs)) (hcs : ∀ x ∈ cs, x.own w) (ht : Ch.own w ⟨ta, tn, tc, tf⟩) (hsm : ∀ x ∈ cs, x.n ≤ 65536) (htn : tn ≤ 65536) (hB : B ≤ w.heap.size) (hBw : B ≤ wb) :
    Calls Ybad.prog 9 #[.pointer (some ⟨pb, 0, none⟩), .iface 30 (.pointer (some ⟨wb, 0, none⟩))] w fun e w' => e = .returned .nilIface ∧ ToSaid B w w' wb fv (cs ++ [⟨ta, tn, tc, tf⟩]) := by
  have c0 : w.cell? ⟨pb, 0, none⟩ = some fl := by rw [cell_of_blk hp]; rfl
  have c1 : w.cell? ⟨pb, 1, none⟩ = some (.slice ta tn tc) := by rw [cell_of_blk hp]; rfl
  have hplt := heap_lt hp
  have a0 : ∀ o, (w.alloc o).cell? ⟨pb, 0, none⟩ = some fl := fun o => (World.cell?_of_block (w := w) (a := ⟨pb, 0, none⟩) (Below.heap_alloc w o pb hplt)).trans c0
  have a1 : ∀ o, (w.alloc o).cell? ⟨pb, 1, none⟩ = some (.slice ta tn tc) := fun o => (World.cell?_of_block (w := w) (a := ⟨pb, 1, none⟩) (Below.heap_alloc w o pb hplt)).trans c1
  have HG : Hid (∀ o w2, (w.alloc o).grownBy w2 fl.ownBlock → w2.cell? ⟨pb, 0, none⟩ = some fl ∧ w2.cell? ⟨pb, 1, none⟩ = some (.slice ta tn tc)) := by
    intro o w2 hg
    have := blk_grown hfl o hg hp (by decide)
    exact ⟨by rw [cell_of_blk this]; rfl, by rw [cell_of_blk this]; rfl⟩
  have HO := Hid.mk hfl
  have HP := Hid.mk hp
  have HW := Hid.mk hw
  have HCS := Hid.mk hcs
  have HT := Hid.mk ht
  have HSM := Hid.mk hsm
  have HN := Hid.mk hn
  clear hp hw hfl hcs ht hsm hn
  obtain ⟨i0, hi, hz0, hz1, hz2⟩ := info_parts info23
  go_enter Ybad.func9, Ybad.ntmps9
  go_wp2
  go_region_held3 (fun w' => w'.cell? ⟨pb, 0, none⟩ = some fl ∧ w'.cell? ⟨pb, 1, none⟩ = some (.slice ta tn tc)) (first | exact ⟨c0, c1⟩ | exact ⟨a0 _, a1 _⟩ | assumption)
    ((refine step_append_lies _ (by rfl) _ _ _ (by rfl) B 23 i0 (.slice none 0 0) 1 24 Ybad.underlying22 hi hz0 hz1 hz2 rfl (by omega) fl n (vals cs) (by rfl) (HO.out.alloc _) ⟨w.heap.size, 0, none⟩ 1 1 [.slice ta tn tc] (by rfl) rfl (World.news_of_block (heap_alloc_new w _)) (one_slice _ _ _) (by omega) (by unfold maxLen; omega) (by omega) (by simp; omega) _ rfl ?_; intro g cap w2 hown2 hgrow2 hat hlt2; have hg2 : (w.alloc (.cells #[.slice ta tn tc] 23)).grownBy w2 fl.ownBlock := ⟨hgrow2.os, hgrow2.tape, hgrow2.output, hgrow2.size, hgrow2.block⟩; have tS := HG.out _ _ hg2; clear hgrow2))
  have hW2 := blk_grown HO.out _ hg2 HW.out (by decide)
  have hs2 : w.heap.size + 1 ≤ w2.heap.size := by have := hg2.size; simpa using this
  have k5 : Keeps5 w w2 := (Keeps5.below (w' := w.alloc (.cells #[.slice ta tn tc] 23)) ((Below.refl _ _).alloc (Nat.le_refl _) _)).trans (keeps5_grown hg2 fun g hg => own_blk (HO.out.alloc _) hg)
  have bB : Below B w w2 := ((Below.refl B w).alloc hB _).grown hg2 (by simp; omega) (fun j e => (HO.out.lt j e).1)
  obtain ⟨all, hall⟩ : ∃ all, all = cs ++ [(⟨ta, tn, tc, tf⟩ : Ch)] := ⟨_, rfl⟩
  have hall1 : all.length = n + 1 := by rw [hall, List.length_append, ← HN.out]; rfl
  have hallv : vals all = vals cs ++ [.slice ta tn tc] := by rw [hall, vals_append]; rfl
  have hallo : ∀ x ∈ all, x.own w2 := by
    intro x hx
    rw [hall] at hx
    rcases List.mem_append.1 hx with hx | hx
    · exact (HCS.out x hx).keep k5
    · simp at hx; subst hx; exact HT.out.keep k5
  have halls : ∀ x ∈ all, x.n ≤ 65536 := by
    intro x hx
    rw [hall] at hx
    rcases List.mem_append.1 hx with hx | hx
    · exact HSM.out x hx
    · simp at hx; subst hx; exact htn
  rw [← hallv] at hown2
  obtain ⟨cg, hgB⟩ := own_blk hown2 (g := g) rfl
  have hrow : ∀ i x, all[i]? = some x → w2.cell? ⟨g, i, none⟩ = some x.val := by
    intro i x hx
    obtain ⟨hi, e⟩ := List.getElem?_eq_some_iff.1 hx
    rw [hown2.cellAt i (by omega)]
    simp [vals, hx]
  have HALL := Hid.mk hall
  have HALO := Hid.mk hallo
  have HALS := Hid.mk halls
  have HROW := Hid.mk hrow
  have HGB := Hid.mk hgB
  have HW2 := Hid.mk hW2
  have HBB := Hid.mk bB
  have HAL1 := Hid.mk hall1
  have hwlt := heap_lt hW2
  have hgw : g ≠ wb := by
    intro e
    rw [e, hW2] at hgB
    injection hgB with hgB
    injection hgB with _ hgB
    exact absurd hgB (by decide)
  clear hall hallo halls hrow hgB hW2 bB k5 hown2 hg2 tS hallv HG a0 a1 c0 c1 hat hall1 HO HP
  go_wp2
  go_loopw [20] (fun i wr => ∃ j : Nat, j ≤ n + 1 ∧ i = .int .i64 j ∧ ∃ lc, Writing w2 wr wb j fv all lc) (fun i _ => n + 1 - (intOf i).toNat)
  case atStart =>
    refine ⟨0, Nat.zero_le _, rfl, [], .slice none 0 0, ⟨HW2.out, World.ownsRow_nil _ _ _ _, fun x hx => (by cases hx)⟩, rfl, BelowBut.refl _ _ _, Keeps5.refl _⟩
  case round =>
    obtain ⟨j, hj, rfl, lc, lv, hSt, hsig, hbb, hk5⟩ := hrel
    by_cases hlt : j < n + 1
    · have q1 : (j : Int) < (n : Int) + 1 := by omega
      have hja : j < all.length := by have := HAL1.out; omega
      obtain ⟨xa, xn, xc, xf, hx⟩ : ∃ xa xn xc xf, all[j] = ⟨xa, xn, xc, xf⟩ := ⟨_, _, _, _, rfl⟩
      have hx' : all[j]? = some ⟨xa, xn, xc, xf⟩ := by rw [List.getElem?_eq_getElem hja, hx]
      have hxm : (⟨xa, xn, xc, xf⟩ : Ch) ∈ all := by rw [← hx]; exact List.getElem_mem hja
      have hxo := (HALO.out _ hxm).keep hk5
      have hx6 : xn ≤ 65536 := HALS.out _ hxm
      have hft := filter_take_succ all j _ hx'
      have cj : wr.cell? ⟨g, j, none⟩ = some (.slice xa xn xc) := by
        rw [World.cell?_of_block (w := w2) (a := ⟨g, j, none⟩) (hbb.block g hlt2 hgw)]
        exact HROW.out j _ hx'
      have hll : lc.length ≤ 1025 := by
        rw [len_of_sig hsig]
        have := List.length_filter_le ne (all.take j)
        rw [List.length_take] at this
        omega
      have HST := Hid.mk hSt
      have HSIG := Hid.mk hsig
      have HFT := Hid.mk hft
      have HXO := Hid.mk hxo
      have HK5 := Hid.mk hk5
      clear hSt hsig hft hxo hx hx' hxm hk5
      by_cases h0 : xn = 0
      · have q2 : ((xn : Int) == 0) = true := by simp [h0]
        have H0 := Hid.mk h0
        clear h0
        go_wp2
        go_roundw
        case rel =>
          refine ⟨j + 1, by omega, by go_num, lc, lv, HST.out, ?_, hbb, HK5.out⟩
          rw [HFT.out, HSIG.out]
          have : ne ⟨xa, xn, xc, xf⟩ = false := by simp [ne, H0.out]
          rw [this]; simp
        case measure => simp [intOf]; omega
      · have q2 : ((xn : Int) == 0) = false := by simp; omega
        have hm := method_write ⟨wb, 0, none⟩
        go_wp2_with fail
        refine (write_any w2.heap.size wb lc.length xa xn xc xf fv lv lc wr HST.out HXO.out hx6 (by omega) (by omega) hwlt hbb.size).mono ?_
        rintro e w3 ⟨rfl, lv', y, s1, s2, s3, s4, s5⟩
        have R : Writing w2 w3 wb (j + 1) fv all (lc ++ [y]) := by
          refine ⟨lv', by rw [List.length_append]; exact s1, ?_, hbb.trans s4, HK5.out.trans s5⟩
          have hne : ne ⟨xa, xn, xc, xf⟩ = true := by simp [ne]; omega
          rw [HFT.out, hne, sig_append, sig_append, HSIG.out]
          simp [sig, s2, s3]
        have HR := Hid.mk R
        have q3 : ¬ (xn : Int) < (xn : Int) := by omega
        clear R s1 s2 s3 s4 s5 hm
        go_wp2
        go_roundw
        case rel => exact ⟨j + 1, by omega, by go_num, _, HR.out⟩
        case measure => simp [intOf]; omega
    · have q1 : ¬ (j : Int) < (n : Int) + 1 := by omega
      have e0 : all.take j = all := List.take_of_length_le (by have := HAL1.out; omega)
      rw [e0] at hsig
      have HST := Hid.mk hSt
      have HSIG := Hid.mk hsig
      clear hSt hsig e0
      go_wp2
      go_ret
      refine ⟨rfl, w2.heap.size, lv, lc, HST.out, ?_, ?_⟩
      · rw [HSIG.out, HALL.out]
      · exact (BelowBut.of_below HBB.out).trans ⟨hbb.os, hbb.tape, hbb.output, hbb.size, fun i hi hw => hbb.block i (by omega) hw⟩
end Go.Proofs.YbulkatswDoor.Dw
