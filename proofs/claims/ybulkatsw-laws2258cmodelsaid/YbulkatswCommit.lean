import Derived.Test.YbulkatswRound
import Derived.WalkSpells
import Derived.WalkLawsBesides
import Derived.Deep.RegionHeld3
import Derived.Deep.MidRow
import Derived.Deep.CutRange
import Derived.Deep.CutBlock
namespace Go.Proofs.Ybulkatsw.Md
open Go Go.RowKit Mf Rw
set_option linter.unusedVariables false

/-- Behind j rounds of giving back. -/
def CR (σ : Nat → Nat) (w : World) (G E Bh Be Bw Bq : Nat) (hv : Nat → Value) (bh : Nat → Nat) (hasq : Nat → Bool) (bq : Nat → Nat) (qv : Nat → Nat → Value) (B : St) (t j : Nat) (wr : World) : Prop :=
  ∃ has, GP σ wr G Bh Be Bw Bq B.waits ∧ WP σ wr Bw B.wt ∧ EP σ wr Be hv B.held ∧ HP σ wr Bh has bh (B.back t ((B.held t).take j)).hold ∧ QP σ wr Bq hasq bq qv B.qu ∧ HasH has (B.back t ((B.held t).take j)).hold ∧ Cell wr E 1 (.string (tx t)) ∧ Fr σ LG w wr

theorem CR.next {σ : Nat → Nat} {w : World} {G E Bh Be Bw Bq : Nat} {hv : Nat → Value} {bh : Nat → Nat} {hasq : Nat → Bool} {bq : Nat → Nat} {qv : Nat → Nat → Value} {B : St} {t j : Nat} {wr w' : World} {has : Nat → Bool} {hold : Nat → Nat → Nat}
    (h : CR σ w G E Bh Be Bw Bq hv bh hasq bq qv B t j wr) (f : Fr σ SH wr w') (hH : HP σ w' Bh has bh hold) (hh : HasH has hold) (e : hold = (B.back t ((B.held t).take (j + 1))).hold) (zE : σ E = 0) : CR σ w G E Bh Be Bw Bq hv bh hasq bq qv B t (j + 1) w' := by
  obtain ⟨_, k1, k2, k3, _, k5, _, k7, k8⟩ := h
  subst e
  exact ⟨has, k1.kept (f.keep (by unfold SH; omega)), k2.kept (f.keep (by unfold SH; omega)), k3.kept (f.keep (by unfold SH SE; omega)), hH, k5.kept (f.keep (by unfold SH SQ; omega)), hh, k7.keep f (by rw [zE]; unfold SH; omega), k8.trans (f.mono (by unfold SH LG; omega))⟩

set_option maxRecDepth 100000 in
set_option maxHeartbeats 4000000 in
theorem ap_commit {σ : Nat → Nat} {w : World} {G n : Nat} {A : St} (hGr : Gr σ w G A)
    (hz : ∀ b, w.heap.size ≤ b → σ b = 0) (hI : Inv n A) (hn : n < 1024) {t r m : Nat} (ht : t < 3) (K : Int) (hK : K = 5 ∨ K = 4) :
    Calls Yba.prog 10 #[.pointer (some ⟨G, 0, none⟩), .agg (evCells K t r m)] w fun e w' => e = .returned (.tuple #[]) ∧ ApPost σ w G (((A.stop t).back t ((A.stop t).held t)).free t) w' := by
  obtain ⟨Bh, Be, Bw, Bq, hv, has, bh, hasq, bq, qv, hG, hW, hE, hH, hQ, hHH, hHQ⟩ := hGr
  obtain ⟨E, hE0⟩ : ∃ E, w.heap.size = E := ⟨_, rfl⟩
  have zE : σ E = 0 := hz E (by omega)
  obtain ⟨w0, hw0⟩ : ∃ w0, w.alloc (.cells (evCells K t r m) 58) = w0 := ⟨_, rfl⟩
  have s0 : ∀ S, Same σ S w w0 := fun S => by rw [← hw0]; exact Same.alloc _ _ _ _
  have c0 := Cell.new w (evCells K t r m) 58 0 (.int .i64 K) rfl
  have c1 := Cell.new w (evCells K t r m) 58 1 (.string (tx t)) rfl
  rw [hw0, hE0] at c0 c1
  have f0 : Fr σ LG w w0 := by rw [← hw0]; exact Fr.alloc _ _ _ _
  have hsz0 : w0.heap.size = E + 1 := by rw [← hw0, ← hE0]; simp
  obtain ⟨B, hB⟩ : ∃ B, A.stop t = B := ⟨_, rfl⟩
  have hIB : Inv n B := by rw [← hB]; exact hI.stop t
  rw [hB]
  have HS : Hid (Calls Yba.prog 18 #[.pointer (some ⟨G, 0, none⟩), .string (tx t)] w0 fun e w' => e = .returned (.tuple #[]) ∧ w'.cell? ⟨E, 1, none⟩ = some (.string (tx t)) ∧
      Hid (Cell w' E 1 (.string (tx t)) ∧ ∃ hasq qv, GP σ w' G Bh Be Bw Bq B.waits ∧ WP σ w' Bw B.wt ∧ EP σ w' Be hv B.held ∧ HP σ w' Bh has bh B.hold ∧ QP σ w' Bq hasq bq qv B.qu ∧ HasH has B.hold ∧ HasQ hasq B.qu ∧ Fr σ LG w w')) := by
    refine (stop_in (hG.kept (s0 _)) (hW.kept (s0 _)) (hQ.kept (s0 _)) (fun b hb => hz b (by omega)) hI (by omega) ht hHQ).mono ?_
    rintro e w' ⟨rfl, hasq', qv', k1, k2, k3, k4, k5⟩
    rw [hB] at k2 k3 k4
    have c1' := c1.keep k5 (by rw [zE]; unfold SQ; omega)
    refine ⟨rfl, c1'.1, c1', hasq', qv', ?_, k2, ?_, ?_, k3, ?_, k4, f0.trans (k5.mono (by unfold SQ LG; omega))⟩
    · rw [← hB, stop_waits]; exact k1
    · rw [← hB, stop_held]; exact (hE.kept (s0 _)).kept (k5.keep (by unfold SE SQ; omega))
    · rw [← hB, stop_hold]; exact (hH.kept (s0 _)).kept (k5.keep (by unfold SH SQ; omega))
    · rw [← hB, stop_hold]; exact hHH
  have e0 := c0.1
  have e1 := c1.1
  clear hG hW hE hH hQ s0 c0 c1 f0 hHH hHQ
  have t2 : ¬ K = 2 := by omega
  have t1 : ¬ K = 1 := by omega
  simp only [evCells] at hw0 ⊢
  rcases hK with rfl | rfl
  · go_enter Yba.func10, Yba.ntmps10
    go_wp2_with (go_at_call 18; refine HS.out.mono ?_; rintro e w5 ⟨rfl, y1, HX⟩)
    clear HS hw0 e0 e1 t1 t2
    obtain ⟨cE, hasq, qv, G5, W5, E5, H5, Q5, hHH, hHQ, f5⟩ := HX.out
    have hlk := (E5.kept (Same.drew σ _ w5)).look ht
    have d2 := G5.e.1
    obtain ⟨a, c, hvt, hkc, hcm⟩ := (E5.vals t ht).shape
    rw [strs_length] at hvt hkc
    obtain ⟨k, hk⟩ : ∃ k, (B.held t).length = k := ⟨_, rfl⟩
    rw [hk] at hvt hkc
    rw [hvt] at hlk
    have hk1 : (k : Int) ≤ 1024 := by have := hIB.heldLen t; omega
    have HC0 : Hid (CR σ w G E Bh Be Bw Bq hv bh hasq bq qv B t 0 w5.drew) := by
      have e : (B.back t ((B.held t).take 0)).hold = B.hold := by simp [St.back]
      refine ⟨has, G5.kept (Same.drew _ _ _), W5.kept (Same.drew _ _ _), E5.kept (Same.drew _ _ _), ?_, Q5.kept (Same.drew _ _ _), ?_, cE, f5.trans (Fr.drew _ _ _)⟩
      · rw [e]; exact H5.kept (Same.drew _ _ _)
      · rw [e]; exact hHH
    clear G5 W5 E5 H5 Q5 f5 hHH HX cE
    go_region_held3 (fun w' => w'.cell? ⟨G, 2, none⟩ = some (.map (some Be)) ∧ w'.cell? ⟨E, 1, none⟩ = some (.string (tx t)) ∧ (Instr.lookup 62 (.map (some Be)) (.string (tx t)) false).run Yba.prog w' = .ok (.slice a k c) w')
      (exact ⟨d2, y1, hlk⟩) (fail)
    clear hlk d2 y1
    go_wp2
    go_loopw [127] (fun iv wr => ∃ j : Nat, j ≤ k ∧ iv = .int .i64 (j : Int) ∧ CR σ w G E Bh Be Bw Bq hv bh hasq bq qv B t j wr) (fun iv _ => k - (intOf iv).toNat)
    case atStart => exact ⟨0, Nat.zero_le _, rfl, HC0.out⟩
    case round =>
      obtain ⟨j, hjk, rfl, hcr⟩ := hrel
      have HCR := Hid.mk hcr
      obtain ⟨has', k1, k2, k3, k4, k5, k6, k7, k8⟩ := hcr
      clear HC0
      by_cases hlt : j < k
      · have z1 : (j : Int) < (k : Int) := by omega
        have z0 : (0 : Int) ≤ (j : Int) := by omega
        have z2 : IntKind.i64.wrap ((j : Int) + 1) = (j : Int) + 1 := by rw [IntKind.wrap_i64]; omega
        have hjl : j < (B.held t).length := by omega
        obtain ⟨rj, hrj⟩ : ∃ rj, (B.held t)[j]? = some rj := ⟨_, List.getElem?_eq_getElem hjl⟩
        have hr3 : rj < 3 := hIB.held t rj (List.mem_of_getElem? hrj)
        obtain ⟨g, off, cap, cur, hv1, hok, hg, _, _, _, htk⟩ := (k3.vals t ht).pos (by intro e; rw [strs] at e; simp at e; rw [e] at hjl; simp at hjl)
        rw [hvt] at hv1
        injection hv1 with ea eb ec
        subst ea
        clear eb ec
        have hcj : wr.cell? ⟨g, off + j, none⟩ = some (.string (res rj)) := cell_in hg htk j _ (by simp [strs, hrj])
        obtain ⟨w1, w2, c', has2, l1, dd1, l2, n1, dd2, fr1, fr2, pp0, pp1⟩ := hold_round (k4.kept (Same.drew σ _ wr)) k6 hr3 ht
        have g1r := k1.h.1
        have y1r := k7.1
        have g11 := (k1.kept ((Same.drew σ _ wr).trans (fr1.keep (S := (· = 1)) (by unfold SH; omega)))).h.1
        have y11 : w1.cell? ⟨E, 1, none⟩ = some (.string (tx t)) := (World.cell?_of_block (fr1.same.block E k7.lt (by rw [zE]; unfold SH; omega))).trans y1r
        obtain ⟨hm, hhm⟩ : ∃ hm, hmapV has' bh rj = hm := ⟨_, rfl⟩
        rw [hhm] at l1 dd1 l2 n1
        have HP0 := Hid.mk pp0
        have HP1 := Hid.mk pp1
        have Hfr := Hid.mk (And.intro fr1 fr2)
        have Hrj := Hid.mk hrj
        have hwm : hm = .map none ∨ ∃ b, hm = .map (some b) := by
          rw [← hhm]; unfold hmapV; split
          · exact .inr ⟨_, rfl⟩
          · exact .inl rfl
        have Hwm := Hid.mk hwm
        clear k1 k2 k3 k4 k5 k6 k7 k8 pp0 pp1 fr1 fr2 hg htk hok hvt hwm hhm hrj
        go_wp2
        go_region_held3 (fun w' => w'.cell? ⟨G, 1, none⟩ = some (.map (some Bh)) ∧ w'.cell? ⟨E, 1, none⟩ = some (.string (tx t)) ∧ (Instr.lookup 61 (.map (some Bh)) (.string (res rj)) false).run Yba.prog w' = .ok hm w')
          (first | exact ⟨g1r, y1r, l1⟩ | exact ⟨g11, y11, l2⟩) (fail)
        clear g1r y1r l1 y11
        by_cases hc0 : c' = 0
        · subst hc0
          have HQ1 := Hid.mk (HP1.out rfl)
          go_wp2
          refine ⟨⟨j + 1, by omega, by go_num, ?_⟩, ?_⟩
          · exact HCR.out.next ((Fr.drew σ _ wr).trans (Hfr.out.1.trans Hfr.out.2)) HQ1.out.1 HQ1.out.2 (back_succ B t _ j rj Hrj.out) zE
          · simp [intOf]
            omega
        · have hc1 : ¬ (c' : Int) = 0 := by omega
          go_wp2
          refine ⟨⟨j + 1, by omega, by go_num, ?_⟩, ?_⟩
          · exact HCR.out.next ((Fr.drew σ _ wr).trans Hfr.out.1) (HP0.out hc0).1 (HP0.out hc0).2 (back_succ B t _ j rj Hrj.out) zE
          · simp [intOf]
            omega
      · have z1 : ¬ (j : Int) < (k : Int) := by omega
        have ej : j = k := by omega
        subst ej
        have etk : (B.held t).take j = B.held t := List.take_of_length_le (by omega)
        rw [etk] at k4 k6
        obtain ⟨w6, hd6, E6, g6⟩ := (k3.kept (Same.drew σ _ wr)).delete ht 0
        have lE := k3.lab
        have s6 : ∀ S : Nat → Prop, ¬ S 3 → Same σ S wr w6 := fun S h => (Same.drew _ _ _).trans (Same.of_grown g6 (by rintro b e; cases e; rw [lE]; exact h))
        have G6 := k1.kept (s6 _ (by omega))
        have x2 := k1.e.1
        have x2' := G6.e.1
        have x1 := k7.1
        have x1' : w6.cell? ⟨E, 1, none⟩ = some (.string (tx t)) := (World.cell?_of_block ((s6 (· = 0) (by omega)).block E k7.lt zE)).trans x1
        have f6 : Fr σ LG w w6 := (k8.trans (Fr.drew _ _ _)).trans (Fr.of_grown g6 (by rintro b e; cases e; rw [lE]; unfold LG; omega))
        have HZ : Hid (ApPost σ w G ((B.back t (B.held t)).free t) w6) := 
          ⟨σ, fun _ _ => rfl, fun b hb => hz b (by have := f6.size; omega), ⟨Bh, Be, Bw, Bq, _, has', bh, hasq, bq, qv, G6, k2.kept (s6 _ (by omega)), E6, k4.kept (s6 _ (by unfold SH; omega)), k5.kept (s6 _ (by unfold SQ; omega)), k6, hHQ⟩, f6⟩
        clear k1 k2 k3 k4 k5 k6 k7 k8 G6 f6 s6 E6 g6 HCR hvt
        go_wp2
        go_region_held3 (fun w' => w'.cell? ⟨G, 2, none⟩ = some (.map (some Be)) ∧ w'.cell? ⟨E, 1, none⟩ = some (.string (tx t)))
          (first | exact ⟨x2, x1⟩ | exact ⟨x2', x1'⟩) (fail)
        go_wp2
        exact bodyPost_end (results_none rfl _ _ _) rfl ⟨rfl, HZ.out⟩
  · go_enter Yba.func10, Yba.ntmps10
    go_wp2_with (go_at_call 18; refine HS.out.mono ?_; rintro e w5 ⟨rfl, y1, HX⟩)
    clear HS hw0 e0 e1 t1 t2
    obtain ⟨cE, hasq, qv, G5, W5, E5, H5, Q5, hHH, hHQ, f5⟩ := HX.out
    have hlk := (E5.kept (Same.drew σ _ w5)).look ht
    have d2 := G5.e.1
    obtain ⟨a, c, hvt, hkc, hcm⟩ := (E5.vals t ht).shape
    rw [strs_length] at hvt hkc
    obtain ⟨k, hk⟩ : ∃ k, (B.held t).length = k := ⟨_, rfl⟩
    rw [hk] at hvt hkc
    rw [hvt] at hlk
    have hk1 : (k : Int) ≤ 1024 := by have := hIB.heldLen t; omega
    have HC0 : Hid (CR σ w G E Bh Be Bw Bq hv bh hasq bq qv B t 0 w5.drew) := by
      have e : (B.back t ((B.held t).take 0)).hold = B.hold := by simp [St.back]
      refine ⟨has, G5.kept (Same.drew _ _ _), W5.kept (Same.drew _ _ _), E5.kept (Same.drew _ _ _), ?_, Q5.kept (Same.drew _ _ _), ?_, cE, f5.trans (Fr.drew _ _ _)⟩
      · rw [e]; exact H5.kept (Same.drew _ _ _)
      · rw [e]; exact hHH
    clear G5 W5 E5 H5 Q5 f5 hHH HX cE
    go_region_held3 (fun w' => w'.cell? ⟨G, 2, none⟩ = some (.map (some Be)) ∧ w'.cell? ⟨E, 1, none⟩ = some (.string (tx t)) ∧ (Instr.lookup 62 (.map (some Be)) (.string (tx t)) false).run Yba.prog w' = .ok (.slice a k c) w')
      (exact ⟨d2, y1, hlk⟩) (fail)
    clear hlk d2 y1
    go_wp2
    go_loopw [127] (fun iv wr => ∃ j : Nat, j ≤ k ∧ iv = .int .i64 (j : Int) ∧ CR σ w G E Bh Be Bw Bq hv bh hasq bq qv B t j wr) (fun iv _ => k - (intOf iv).toNat)
    case atStart => exact ⟨0, Nat.zero_le _, rfl, HC0.out⟩
    case round =>
      obtain ⟨j, hjk, rfl, hcr⟩ := hrel
      have HCR := Hid.mk hcr
      obtain ⟨has', k1, k2, k3, k4, k5, k6, k7, k8⟩ := hcr
      clear HC0
      by_cases hlt : j < k
      · have z1 : (j : Int) < (k : Int) := by omega
        have z0 : (0 : Int) ≤ (j : Int) := by omega
        have z2 : IntKind.i64.wrap ((j : Int) + 1) = (j : Int) + 1 := by rw [IntKind.wrap_i64]; omega
        have hjl : j < (B.held t).length := by omega
        obtain ⟨rj, hrj⟩ : ∃ rj, (B.held t)[j]? = some rj := ⟨_, List.getElem?_eq_getElem hjl⟩
        have hr3 : rj < 3 := hIB.held t rj (List.mem_of_getElem? hrj)
        obtain ⟨g, off, cap, cur, hv1, hok, hg, _, _, _, htk⟩ := (k3.vals t ht).pos (by intro e; rw [strs] at e; simp at e; rw [e] at hjl; simp at hjl)
        rw [hvt] at hv1
        injection hv1 with ea eb ec
        subst ea
        clear eb ec
        have hcj : wr.cell? ⟨g, off + j, none⟩ = some (.string (res rj)) := cell_in hg htk j _ (by simp [strs, hrj])
        obtain ⟨w1, w2, c', has2, l1, dd1, l2, n1, dd2, fr1, fr2, pp0, pp1⟩ := hold_round (k4.kept (Same.drew σ _ wr)) k6 hr3 ht
        have g1r := k1.h.1
        have y1r := k7.1
        have g11 := (k1.kept ((Same.drew σ _ wr).trans (fr1.keep (S := (· = 1)) (by unfold SH; omega)))).h.1
        have y11 : w1.cell? ⟨E, 1, none⟩ = some (.string (tx t)) := (World.cell?_of_block (fr1.same.block E k7.lt (by rw [zE]; unfold SH; omega))).trans y1r
        obtain ⟨hm, hhm⟩ : ∃ hm, hmapV has' bh rj = hm := ⟨_, rfl⟩
        rw [hhm] at l1 dd1 l2 n1
        have HP0 := Hid.mk pp0
        have HP1 := Hid.mk pp1
        have Hfr := Hid.mk (And.intro fr1 fr2)
        have Hrj := Hid.mk hrj
        have hwm : hm = .map none ∨ ∃ b, hm = .map (some b) := by
          rw [← hhm]; unfold hmapV; split
          · exact .inr ⟨_, rfl⟩
          · exact .inl rfl
        have Hwm := Hid.mk hwm
        clear k1 k2 k3 k4 k5 k6 k7 k8 pp0 pp1 fr1 fr2 hg htk hok hvt hwm hhm hrj
        go_wp2
        go_region_held3 (fun w' => w'.cell? ⟨G, 1, none⟩ = some (.map (some Bh)) ∧ w'.cell? ⟨E, 1, none⟩ = some (.string (tx t)) ∧ (Instr.lookup 61 (.map (some Bh)) (.string (res rj)) false).run Yba.prog w' = .ok hm w')
          (first | exact ⟨g1r, y1r, l1⟩ | exact ⟨g11, y11, l2⟩) (fail)
        clear g1r y1r l1 y11
        by_cases hc0 : c' = 0
        · subst hc0
          have HQ1 := Hid.mk (HP1.out rfl)
          go_wp2
          refine ⟨⟨j + 1, by omega, by go_num, ?_⟩, ?_⟩
          · exact HCR.out.next ((Fr.drew σ _ wr).trans (Hfr.out.1.trans Hfr.out.2)) HQ1.out.1 HQ1.out.2 (back_succ B t _ j rj Hrj.out) zE
          · simp [intOf]
            omega
        · have hc1 : ¬ (c' : Int) = 0 := by omega
          go_wp2
          refine ⟨⟨j + 1, by omega, by go_num, ?_⟩, ?_⟩
          · exact HCR.out.next ((Fr.drew σ _ wr).trans Hfr.out.1) (HP0.out hc0).1 (HP0.out hc0).2 (back_succ B t _ j rj Hrj.out) zE
          · simp [intOf]
            omega
      · have z1 : ¬ (j : Int) < (k : Int) := by omega
        have ej : j = k := by omega
        subst ej
        have etk : (B.held t).take j = B.held t := List.take_of_length_le (by omega)
        rw [etk] at k4 k6
        obtain ⟨w6, hd6, E6, g6⟩ := (k3.kept (Same.drew σ _ wr)).delete ht 0
        have lE := k3.lab
        have s6 : ∀ S : Nat → Prop, ¬ S 3 → Same σ S wr w6 := fun S h => (Same.drew _ _ _).trans (Same.of_grown g6 (by rintro b e; cases e; rw [lE]; exact h))
        have G6 := k1.kept (s6 _ (by omega))
        have x2 := k1.e.1
        have x2' := G6.e.1
        have x1 := k7.1
        have x1' : w6.cell? ⟨E, 1, none⟩ = some (.string (tx t)) := (World.cell?_of_block ((s6 (· = 0) (by omega)).block E k7.lt zE)).trans x1
        have f6 : Fr σ LG w w6 := (k8.trans (Fr.drew _ _ _)).trans (Fr.of_grown g6 (by rintro b e; cases e; rw [lE]; unfold LG; omega))
        have HZ : Hid (ApPost σ w G ((B.back t (B.held t)).free t) w6) := 
          ⟨σ, fun _ _ => rfl, fun b hb => hz b (by have := f6.size; omega), ⟨Bh, Be, Bw, Bq, _, has', bh, hasq, bq, qv, G6, k2.kept (s6 _ (by omega)), E6, k4.kept (s6 _ (by unfold SH; omega)), k5.kept (s6 _ (by unfold SQ; omega)), k6, hHQ⟩, f6⟩
        clear k1 k2 k3 k4 k5 k6 k7 k8 G6 f6 s6 E6 g6 HCR hvt
        go_wp2
        go_region_held3 (fun w' => w'.cell? ⟨G, 2, none⟩ = some (.map (some Be)) ∧ w'.cell? ⟨E, 1, none⟩ = some (.string (tx t)))
          (first | exact ⟨x2, x1⟩ | exact ⟨x2', x1'⟩) (fail)
        go_wp2
        exact bodyPost_end (results_none rfl _ _ _) rfl ⟨rfl, HZ.out⟩

end Go.Proofs.Ybulkatsw.Md
