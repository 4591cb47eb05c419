import Derived.Test.YbulkatswDoorTo
namespace Go.Proofs.YbulkatswDoor.Dw
open Go.RowKit
set_option linter.unusedVariables false

theorem new_any (s : ByteArray) (w : World) : Calls Ybad.prog 8 #[.string s] w fun e w' => e = .returned (.iface 40 (.pointer (some ⟨w.heap.size, 0, none⟩))) ∧ w' = w.alloc (.cells #[.string s] 42) := by
  go_enter Ybad.func8, Ybad.ntmps8
  go_wp2
  go_ret
  exact ⟨rfl, rfl⟩

theorem own_slice {w : World} {B : Nat} {e : TypeId} {s : Nat} {v : Value} {n : Nat} {xs : List Value} (h : w.ownsRow B e s v n xs) : ∃ a c, v = .slice a n c := by
  rcases h.2 with ⟨rfl, hz⟩ | ⟨g, c, cur, hv, _⟩
  · exact ⟨none, 0, by rw [hz]⟩
  · exact ⟨_, c, hv⟩

theorem sig_filter (cs : List Ch) : sig (cs.filter ne) = (sig cs).filter fun p => decide (0 < p.1) := by
  unfold sig
  rw [List.filter_map]
  rfl

theorem filter_get (all : List Ch) (j : Nat) (x : Ch) (h : all[j]? = some x) (hx : ne x = true) : (all.filter ne)[((all.take j).filter ne).length]? = some x := by
  obtain ⟨hk, e⟩ := List.getElem?_eq_some_iff.1 h
  have hd : all = all.take j ++ x :: all.drop (j + 1) := by
    rw [← e, List.getElem_cons_drop, List.take_append_drop]
  have hf : all.filter ne = (all.take j).filter ne ++ x :: (all.drop (j + 1)).filter ne := by
    conv => lhs; rw [hd]
    rw [List.filter_append, List.filter_cons, if_pos hx]
  rw [hf, List.getElem?_append_right (Nat.le_refl _), Nat.sub_self]
  rfl

theorem heap3 (w : World) (o1 o2 o3 : Obj) : (((w.alloc o1).alloc o2).alloc o3).heap[w.heap.size]? = some o1 ∧ (((w.alloc o1).alloc o2).alloc o3).heap[w.heap.size + 1 + 1]? = some o3 ∧ Below w.heap.size w (((w.alloc o1).alloc o2).alloc o3) := by
  refine ⟨?_, ?_, ?_⟩
  · rw [Below.heap_alloc _ _ _ (by simp; omega), Below.heap_alloc _ _ _ (by simp)]
    exact heap_alloc_new w o1
  · have := heap_alloc_new ((w.alloc o1).alloc o2) o3
    simpa using this
  · exact (((Below.refl _ _).alloc (Nat.le_refl _) _).alloc (by simp) _).alloc (by simp; omega) _

theorem sig_get {a b : List Ch} (h : sig a = sig b) {i : Nat} {x : Ch} (hx : b[i]? = some x) : ∃ y, a[i]? = some y ∧ y.n = x.n ∧ y.f = x.f := by
  have h1 : (sig b)[i]? = some (x.n, x.f) := by simp [sig, hx]
  rw [← h] at h1
  simp only [sig, List.getElem?_map, Option.map_eq_some_iff] at h1
  obtain ⟨y, hy, e⟩ := h1
  injection e with e1 e2
  exact ⟨y, hy, e1, e2⟩

theorem chunk_any (fa ta : Option Addr) (n fc tn tc j : Nat) (tf : Nat → UInt8) (cs : List Ch) (w : World) (hf : Full w fa cs) (hn : n = cs.length) (hj : j ≤ n) (xa : Option Addr) (xn xc : Nat) (xf : Nat → UInt8) (hx : (cs ++ [(⟨ta, tn, tc, tf⟩ : Ch)])[j]? = some ⟨xa, xn, xc, xf⟩) :
    Calls Ybad.prog 10 #[.slice fa n fc, .slice ta tn tc, .int .i64 j] w fun e w' => e = .returned (.slice xa xn xc) ∧ w' = w := by
  by_cases h : j < n
  · rw [List.getElem?_append_left (by omega)] at hx
    exact chunk_in fa ta n fc tn tc j cs w hf hn h xa xn xc xf hx
  · obtain rfl : j = n := by omega
    rw [List.getElem?_append_right (by omega), hn, Nat.sub_self] at hx
    have e : (⟨ta, tn, tc, tf⟩ : Ch) = ⟨xa, xn, xc, xf⟩ := Option.some.inj hx
    injection e with e1 e2 e3 _
    subst e1 e2 e3
    exact chunk_end fa ta j fc tn tc w

/-- How many of the first j are not empty. -/
def cnt (all : List Ch) (j : Nat) : Nat := ((all.take j).filter ne).length
theorem cnt_succ (all : List Ch) (j : Nat) (x : Ch) (h : all[j]? = some x) : cnt all (j + 1) = cnt all j + if ne x then 1 else 0 := by
  unfold cnt
  rw [filter_take_succ all j x h, List.length_append]
  cases ne x <;> rfl
theorem cnt_le (all : List Ch) (j : Nat) : cnt all j ≤ j := by
  unfold cnt
  exact Nat.le_trans (List.length_filter_le _ _) (by rw [List.length_take]; omega)

set_option maxHeartbeats 1600000 in
theorem law_any (fa ta : Option Addr) (n fc tn tc : Nat) (tf : Nat → UInt8) (cs : List Ch) (w : World) (hf : Full w fa cs) (hn : n = cs.length) (hok : ∀ x ∈ cs, x.ok w) (ht : Ch.ok w ⟨ta, tn, tc, tf⟩) (hnil : fa = none → n = 0 ∧ fc = 0) :
    Calls Ybad.prog 3 #[.slice fa n fc, .slice ta tn tc] w fun e w' => e = .returned (.bool true) ∧ Below w.heap.size w w' := by
  have HF := Hid.mk hf
  have HN := Hid.mk hn
  have HO := Hid.mk hok
  have HT := Hid.mk ht
  clear hf hn hok ht
  go_enter Ybad.func3, Ybad.ntmps3
  go_wp2_with fail
  refine (toobig_any fa ta n fc tn tc cs w HF.out HN.out).mono ?_
  rintro e w0 ⟨⟨b, rfl, hb⟩, rfl⟩
  cases b
  · obtain ⟨h1024, htn, hsm⟩ := hb rfl
    clear hb
    have HSM := Hid.mk hsm
    clear hsm
    go_wp2_with fail
    refine (acopy_any fa n fc cs w0 HF.out HN.out h1024 HSM.out HO.out hnil).mono ?_
    rintro e w1 ⟨v, rfl, cs', hs1, ho1, hc1, hb1⟩
    obtain ⟨la, lcap, rfl⟩ := own_slice ho1
    have HS1 := Hid.mk hs1
    have HO1 := Hid.mk ho1
    have HC1 := Hid.mk hc1
    have HB1 := Hid.mk hb1
    clear hs1 ho1 hc1 hnil
    go_wp2_with fail
    refine (clone_any ta tn tc tf w1 (HT.out.below hb1) htn).mono ?_
    rintro e w2 ⟨ya, yc, rfl, hy, hb2⟩
    have HY := Hid.mk hy
    have HB2 := Hid.mk hb2
    clear hb1 hb2 hy
    go_wp2_with fail
    refine (new_any _ _).mono ?_
    rintro e w3 ⟨rfl, rfl⟩
    go_wp2_with fail
    obtain ⟨g1, g2, g3⟩ := heap3 w2 (.cells #[.slice la n lcap, .slice ya tn yc, .int .i64 0, .slice none 0 0] 29) (.cells #[.string ⟨#[102, 97, 105, 108]⟩] 42) (.cells #[.slice none 0 0, .int .i64 0, .slice none 0 0, .iface 40 (.pointer (some ⟨w2.heap.size + 1, 0, none⟩))] 35)
    have hb02 : Below w0.heap.size w0 w2 := HB1.out.trans (HB2.out.mono HB1.out.size)
    have hb04 := hb02.trans (g3.mono hb02.size)
    have hb14 := HB2.out.trans (g3.mono HB2.out.size)
    refine (to_any w0.heap.size w2.heap.size (w2.heap.size + 1 + 1) n tn yc ya tf (.slice la n lcap) (.iface 40 (.pointer (some ⟨w2.heap.size + 1, 0, none⟩))) cs' _ ?e1 h1024 g1 g2 (own_below HO1.out hb14) (fun x hx => (HC1.out x hx).keep (Keeps5.below hb14)) (HY.out.keep (Keeps5.below g3)) ?e2 htn hb04.size (by have := hb02.size; omega)).mono ?_
    case e1 => rw [len_of_sig HS1.out]; exact HN.out
    case e2 =>
      intro x hx
      obtain ⟨i, hi, e⟩ := List.getElem_of_mem hx
      have hx' : cs'[i]? = some x := by rw [List.getElem?_eq_getElem hi, e]
      obtain ⟨y, hy1, hy2, _⟩ := sig_get HS1.out.symm hx'
      rw [← hy2]
      exact HSM.out y (List.mem_of_getElem? hy1)
    rintro e w5 ⟨rfl, base, lv, lc, hSt, hsig, hbb⟩
    obtain ⟨lga, lgc, rfl⟩ := own_slice hSt.2.1
    have hb05 : Below w0.heap.size w0 w5 := hb04.trans (hbb.below (Nat.le_refl _) (by have := hb02.size; omega))
    obtain ⟨all, hall⟩ : ∃ all, all = cs ++ [(⟨ta, tn, tc, tf⟩ : Ch)] := ⟨_, rfl⟩
    have hsig2 : sig lc = sig (all.filter ne) := by
      rw [hsig, sig_filter, sig_filter, hall, sig_append, sig_append, HS1.out]
      rfl
    have hal1 : all.length = n + 1 := by rw [hall, List.length_append, ← HN.out]; rfl
    have halk : ∀ x ∈ all, x.ok w5 := by
      intro x hx
      rw [hall] at hx
      rcases List.mem_append.1 hx with hx | hx
      · exact (HO.out x hx).below hb05
      · simp at hx; subst hx; exact HT.out.below hb05
    have cL : w5.cell? ⟨w2.heap.size + 1 + 1, 2, none⟩ = some (.slice lga lc.length lgc) := by rw [cell_of_blk hSt.1]; rfl
    have hlk : ∀ i y, lc[i]? = some y → ∃ lg, lga = some ⟨lg, 0, none⟩ ∧ w5.cell? ⟨lg, i, none⟩ = some y.val := by
      intro i y hy
      obtain ⟨hi, e⟩ := List.getElem?_eq_some_iff.1 hy
      rcases hSt.2.1.2 with ⟨hv, hz⟩ | ⟨g, c, cur, hv, _⟩
      · omega
      · injection hv with h1 h2 h3
        subst h1
        refine ⟨g, rfl, ?_⟩
        rw [hSt.2.1.cellAt i (by omega)]
        simp [vals, hy]
    have hLl : lc.length ≤ 1025 := by
      rw [len_of_sig hsig2]
      have := List.length_filter_le ne all
      omega
    have HST := Hid.mk hSt
    have HSIG := Hid.mk hsig2
    have HAL := Hid.mk hall
    have HAL1 := Hid.mk hal1
    have HALK := Hid.mk halk
    have HLK := Hid.mk hlk
    have HF5 := Hid.mk (HF.out.below hb05)
    have HB5 := Hid.mk hb05
    clear g1 g2 g3 hb02 hb04 hb14 hSt hsig hsig2 hall hal1 halk hlk hbb hb05
    go_wp2
    go_loop [8, 9] (fun kk i => ∃ j : Nat, j ≤ n + 1 ∧ i = .int .i64 j ∧ kk = .int .i64 ((cnt all j : Nat) : Int)) (fun _ i => n + 1 - (intOf i).toNat)
    case atStart => exact ⟨0, Nat.zero_le _, rfl, by simp [cnt]⟩
    case round =>
      obtain ⟨j, hj, rfl, rfl⟩ := hrel
      have hcl := cnt_le all j
      by_cases hlt : j < n + 1
      · have q1 : (j : Int) ≤ (n : Int) := by omega
        have hja : j < all.length := by have := HAL1.out; omega
        obtain ⟨xa, xn, xc, xf, hx⟩ : ∃ xa xn xc xf, all[j] = ⟨xa, xn, xc, xf⟩ := ⟨_, _, _, _, rfl⟩
        have hx' : all[j]? = some ⟨xa, xn, xc, xf⟩ := by rw [List.getElem?_eq_getElem hja, hx]
        have hxm : (⟨xa, xn, xc, xf⟩ : Ch) ∈ all := by rw [← hx]; exact List.getElem_mem hja
        have hcs := cnt_succ all j _ hx'
        have hg := filter_get all j _ hx'
        have HX := Hid.mk hx'
        have HXM := Hid.mk hxm
        have HCS := Hid.mk hcs
        have HGT := Hid.mk hg
        clear hx hx' hxm hcs hg
        obtain ⟨kk, hkk⟩ : ∃ kk, kk = cnt all j := ⟨_, rfl⟩
        rw [← hkk] at hcl ⊢
        have HKK := Hid.mk hkk
        clear hkk
        go_wp2_with fail
        refine (chunk_any fa ta n fc tn tc j tf cs w5 HF5.out HN.out (by omega) xa xn xc xf (by rw [← HAL.out]; exact HX.out)).mono ?_
        rintro e w5 ⟨rfl, rfl⟩
        by_cases h0 : xn = 0
        · have q2 : ((xn : Int) == 0) = true := by simp [h0]
          have H0 := Hid.mk h0
          clear h0
          go_wp2
          go_round
          case rel =>
            refine ⟨j + 1, by omega, by go_num, ?_⟩
            have hne : ne ⟨xa, xn, xc, xf⟩ = false := by simp [ne, H0.out]
            rw [HCS.out, hne, ← HKK.out]; simp
          case measure => simp [intOf]; omega
        · have q2 : ((xn : Int) == 0) = false := by simp; omega
          have hne : ne ⟨xa, xn, xc, xf⟩ = true := by simp [ne]; omega
          obtain ⟨y, hy1, hy2, hy3⟩ := sig_get HSIG.out (HGT.out hne)
          have hkl : kk < lc.length := by
            have := (List.getElem?_eq_some_iff.1 hy1).1
            have e := HKK.out
            unfold cnt at e
            omega
          obtain ⟨lg, rfl, cy⟩ := HLK.out _ _ hy1
          obtain ⟨ya', yn, yc', yf⟩ := y
          simp only at hy2 hy3
          have cy' : w5.cell? ⟨lg, kk, none⟩ = some (.slice ya' yn yc') := by rw [HKK.out]; exact cy
          have hyok : Ch.ok w5 ⟨ya', yn, yc', yf⟩ := (HST.out.2.2 _ (List.mem_of_getElem? hy1)).ok
          have hxok := HALK.out _ HXM.out
          rw [hy2] at cy' hyok
          rw [hy3] at hyok
          have HYOK := Hid.mk hyok
          have HXOK := Hid.mk hxok
          have HNE := Hid.mk hne
          have q3 : ¬ (lc.length : Int) ≤ (kk : Int) := by omega
          have q4 : (kk : Int) < (lc.length : Int) := by omega
          clear hy1 hy2 hy3 cy hyok hxok hne
          go_wp2_with fail
          refine (equal_same ya' xa xn yc' xc xf w5 HYOK.out HXOK.out).mono ?_
          rintro e w5 ⟨rfl, rfl⟩
          go_wp2
          go_round
          case rel =>
            refine ⟨j + 1, by omega, by go_num, ?_⟩
            rw [HCS.out, HNE.out, ← HKK.out]; simp
          case measure => simp [intOf]; omega
      · have q1 : ¬ (j : Int) ≤ (n : Int) := by omega
        have hce : cnt all j = lc.length := by
          rw [len_of_sig HSIG.out]
          unfold cnt
          rw [List.take_of_length_le (by have := HAL1.out; omega)]
        rw [hce]
        clear hce hcl
        go_wp2
        go_ret
        exact ⟨rfl, HB5.out⟩
  · go_wp2
    go_ret
    exact ⟨rfl, Below.refl _ _⟩
end Go.Proofs.YbulkatswDoor.Dw
