import Derived.Test.YbulkatumRemove
namespace Go.Proofs.Ybulkatum.Ap
open Go.RowKit
set_option linter.unusedVariables false

theorem removed_fl (R : Nat → Row) (i j : Nat) : (removed R i j).fl = (R j).fl ∧ (removed R i j).id = (R j).id ∧ (removed R i j).chk = (R j).chk ∧ (removed R i j).en = (R j).en := by
  have e1 : ∀ R i v j, (setNx R i v j).fl = (R j).fl ∧ (setNx R i v j).id = (R j).id ∧ (setNx R i v j).chk = (R j).chk ∧ (setNx R i v j).en = (R j).en := by
    intro R i v j; unfold setNx; split <;> simp
  have e2 : ∀ R i v j, (setPv R i v j).fl = (R j).fl ∧ (setPv R i v j).id = (R j).id ∧ (setPv R i v j).chk = (R j).chk ∧ (setPv R i v j).en = (R j).en := by
    intro R i v j; unfold setPv; split <;> simp
  have e3 : ∀ R i j, (cutPv R i j).fl = (R j).fl ∧ (cutPv R i j).id = (R j).id ∧ (cutPv R i j).chk = (R j).chk ∧ (cutPv R i j).en = (R j).en := by
    intro R i j; unfold cutPv; split
    · simp
    · exact e1 _ _ _ _
  have e4 : ∀ R i j, (cutNx R i j).fl = (R j).fl ∧ (cutNx R i j).id = (R j).id ∧ (cutNx R i j).chk = (R j).chk ∧ (cutNx R i j).en = (R j).en := by
    intro R i j; unfold cutNx; split
    · simp
    · exact e2 _ _ _ _
  unfold removed
  obtain ⟨a1, a2, a3, a4⟩ := e1 (setPv (cutNx (cutPv R i) i) i 0) i 0 j
  obtain ⟨b1, b2, b3, b4⟩ := e2 (cutNx (cutPv R i) i) i 0 j
  obtain ⟨c1, c2, c3, c4⟩ := e4 (cutPv R i) i j
  obtain ⟨d1, d2, d3, d4⟩ := e3 R i j
  exact ⟨by rw [a1, b1, c1, d1], by rw [a2, b2, c2, d2], by rw [a3, b3, c3, d3], by rw [a4, b4, c4, d4]⟩

theorem Mem.at_ok {w : World} {n : Nat} {R : Nat → Row} {S : Nat → Nat} {h t i r : Nat} (m : Mem w n R S h t) (hi : i < 8) (hr : Hid (r = i + 1)) :
    Calls Yba.prog 8 #[.pointer (some ⟨n + 2, 44, none⟩), .int .u32 (r : Int)] w fun e w' => e = .returned (.pointer (some ⟨n + 3, i * 48, none⟩)) ∧ w' = w :=
  at_row w n i r hi hr.out m.c44.1 m.c4.1

theorem ws_drew {W : World} {a1 a2 : Addr} {v1 v2 : Option Value} (h : W.cell? a1 = v1 ∧ W.cell? a2 = v2) : W.drew.cell? a1 = v1 ∧ W.drew.cell? a2 = v2 := by simpa using h

attribute [local go_sem ↓] Go.wp_at_zero Go.wp_at_succ
set_option maxRecDepth 20000 in
theorem withdraw_row (w : World) (n : Nat) (R : Nat → Row) (S : Nat → Nat) (hh tt i r : Nat) (hM : Mem w n R S hh tt) (hi : i < 8) (hr : r = i + 1) (hp8 : (R i).pv ≤ 8) (hx8 : (R i).nx ≤ 8) (hpi : (R i).pv ≠ i + 1) (hxi : (R i).nx ≠ i + 1) :
    Calls Yba.prog 9 #[.pointer (some ⟨n + 2, 0, none⟩), .int .u32 (r : Int)] w fun e w' => e = .returned (.tuple #[]) ∧
      Mem w' n (setFl (removed R i) i (bits .andNot .u8 (R i).fl 1)) S (if (R i).pv = 0 then (R i).nx else hh) (if (R i).nx = 0 then (R i).pv else tt) ∧ But n w w' := by
  have HR := Hid.mk hr
  have hS0 : w.cell? ⟨n + 2, 52, none⟩ = some (.slice (some ⟨n + 1, 0, none⟩) 1 1) ∧ w.cell? ⟨n + 3, i * 48 + 40, none⟩ = some (.int .u32 0) := ⟨hM.c52.1, (hM.grp i hi).1⟩
  have HC : Hid (∀ W, Mem W n R S hh tt → Calls Yba.prog 12 #[.pointer (some ⟨n + 1, 2, none⟩), .pointer (some ⟨n + 2, 44, none⟩), .int .u32 (r : Int)] W fun e w' => e = .returned (.tuple #[]) ∧
      Mem w' n (removed R i) S (if (R i).pv = 0 then (R i).nx else hh) (if (R i).nx = 0 then (R i).pv else tt) ∧ But n W w') := fun W hW => remove_row W n R S hh tt i r hW hi hr hp8 hx8 hpi hxi
  obtain ⟨h1, hh1⟩ : ∃ h1, h1 = (if (R i).pv = 0 then (R i).nx else hh) := ⟨_, rfl⟩
  obtain ⟨t1, ht1⟩ : ∃ t1, t1 = (if (R i).nx = 0 then (R i).pv else tt) := ⟨_, rfl⟩
  obtain ⟨fl, hfl⟩ : ∃ fl, fl = (R i).fl := ⟨_, rfl⟩
  rw [← hh1, ← ht1] at HC ⊢
  rw [← hfl]
  obtain ⟨fl', hfl'⟩ : ∃ fl', bits .andNot .u8 fl 1 = fl' := ⟨_, rfl⟩
  rw [hfl']
  have HM := Hid.mk hM
  have HFL := Hid.mk hfl
  clear hM hr hp8 hx8 hpi hxi hh1 ht1 hfl
  go_enter Yba.func9, Yba.ntmps9
  go_upto_region 1 with (go_at_call 8; refine (HM.out.at_ok hi HR).mono ?_; rintro e w ⟨rfl, rfl⟩)
  go_region_held3 (fun w' => w'.cell? ⟨n + 2, 52, none⟩ = some (.slice (some ⟨n + 1, 0, none⟩) 1 1) ∧ w'.cell? ⟨n + 3, i * 48 + 40, none⟩ = some (.int .u32 0)) (first | assumption | exact ws_drew (by assumption))
    ((go_at_call 12; refine (HC.out _ (by first | exact HM.out | exact HM.out.drew)).mono ?_; rintro e w2 ⟨rfl, hM2, hB2⟩; have hS2 : w2.cell? ⟨n + 2, 52, none⟩ = some (.slice (some ⟨n + 1, 0, none⟩) 1 1) ∧ w2.cell? ⟨n + 3, i * 48 + 40, none⟩ = some (.int .u32 0) := ⟨hM2.c52.1, (hM2.grp i hi).1⟩))
  have c45 : w2.cell? ⟨n + 3, i * 48 + 45, none⟩ = some (.int .u8 fl) := by have := (hM2.fl i hi).1; rw [(removed_fl R i i).1, ← HFL.out] at this; exact this
  have d45 := (hM2.fl i hi).2
  have HM2 := Hid.mk hM2
  have HB2 := Hid.mk hB2
  clear hM2 hB2 hS2 hS0
  go_wp2
  refine bodyPost_end (results_none rfl _ _ _) rfl ?_
  exact ⟨rfl, HM2.out.setFl i fl' hi, ((But.refl _ _).drew.trans HB2.out).set _ _ _ (.inr rfl)⟩

/-- What 'checkChange' leaves. -/
def changed (R : Nat → Row) (i : Nat) (wt : Bool) (en : Int) : Nat → Row :=
  setEn (setChk (if wt then setFl (removed R i) i (bits .andNot .u8 (R i).fl 1) else R) i (IntKind.u32.wrap ((R i).chk + 1))) i en

theorem tfind_in {B b o n hh tt : Nat} {W0 : World} {cs : List Value} {R : Nat → Row} {S : Nat → Nat} {f : Nat → UInt8} {r d : Nat} (HF : Hid (∀ W, Below B W0 W → W.rangeAt b o cs ∧ Mem W n R S hh tt)) (hP : Probe R S f r d) (HA : Hid (idArr f = cs.toArray)) (hB : W0.heap.size = B) (W : World) (hS : Below B W0 W ∧ W.rangeAt b o cs) :
    Calls Yba.prog 6 #[.pointer (some ⟨n + 2, 44, none⟩), .agg cs.toArray] W fun e w' => e = .returned (.int .u32 (r : Int)) ∧ (Below B W0 w' ∧ w'.rangeAt b o cs) := by
  rw [← HA.out]
  refine (tfind_row W n R S hh tt f r d (HF.out W hS.1).2 hP).mono ?_
  rintro e w' ⟨rfl, h⟩
  have h2 := below_up hS.1 h hB
  exact ⟨rfl, h2, (HF.out w' h2).1⟩
theorem gs_drew {B b o : Nat} {W0 W : World} {cs : List Value} (h : Below B W0 W ∧ W.rangeAt b o cs) : Below B W0 W.drew ∧ W.drew.rangeAt b o cs := ⟨h.1.drew, by simpa using h.2⟩
theorem wd_chk {w : World} {n : Nat} {R : Nat → Row} {S : Nat → Nat} {h t i : Nat} {v ck : Int} (m : Mem w n (setFl (removed R i) i v) S h t) (hi : i < 8) (hc : Hid (ck = (R i).chk)) : w.cell? ⟨n + 3, i * 48 + 38, none⟩ = some (.int .u32 ck) := by
  have := (m.chk i hi).1
  rw [this, hc.out]
  simp [setFl, (removed_fl R i i).2.2.1]

set_option maxRecDepth 20000 in
theorem change_row (w : World) (n : Nat) (R : Nat → Row) (S : Nat → Nat) (hh tt i r d : Nat) (wt : Bool) (f : Nat → UInt8) (A : Array Value) (en : Int) (hM : Mem w n R S hh tt) (hP : Probe R S f r d) (hi : i < 8) (hr : r = i + 1)
    (hAs : A.size = 65) (hAf : ∀ j, j < 16 → A[17 + j]? = some (.int .u8 ((f j).toNat : Int))) (hwt : bits .and .u8 (R i).fl 1 = if wt then 1 else 0)
    (hp8 : (R i).pv ≤ 8) (hx8 : (R i).nx ≤ 8) (hpi : (R i).pv ≠ i + 1) (hxi : (R i).nx ≠ i + 1) :
    Calls Yba.prog 5 #[.pointer (some ⟨n + 2, 0, none⟩), .agg A, .int .i64 en] w fun e w' => e = .returned (.pointer none) ∧
      Mem w' n (changed R i wt en) S (if wt then (if (R i).pv = 0 then (R i).nx else hh) else hh) (if wt then (if (R i).nx = 0 then (R i).pv else tt) else tt) ∧ But n w w' := by
  obtain ⟨cs, hcs⟩ : ∃ cs, cs = idList f := ⟨_, rfl⟩
  have hl : cs.length = 16 := by rw [hcs]; exact idList_length f
  have hi1 : (Yba.prog.info? 113).map (·.size) = some cs.length := by rw [hl]; exact info113
  have hu := Yba.underlying113
  have HA : Hid (idArr f = cs.toArray) := by rw [hcs]; rfl
  obtain ⟨W0, hW⟩ : ∃ W0, W0 = w.alloc (.cells A 122) := ⟨_, rfl⟩
  have hB0 : Below w.heap.size w W0 := by rw [hW]; exact (Below.refl _ _).alloc (Nat.le_refl _) _
  have hs0 : W0.heap.size = w.heap.size + 1 := by rw [hW]; simp
  have hr0 : W0.rangeAt w.heap.size 17 cs := fun j v hv => by
    have hj : j < 16 := by have := (List.getElem?_eq_some_iff.1 hv).1; omega
    rw [hcs, idList_get f j hj] at hv
    rw [hW, World.cell?_alloc_new, hAf j hj, hv]
  have hM0 : Mem W0 n R S hh tt := hM.keep (Keeps.below hB0)
  have HF : Hid (∀ W, Below (w.heap.size + 1) W0 W → W.rangeAt w.heap.size 17 cs ∧ Mem W n R S hh tt) := fun W hb => ⟨fun j v hv => by
    rw [hb.cell (p := ⟨w.heap.size, 17 + j, none⟩) (by simp)]; exact hr0 j v hv, hM0.keep (Keeps.below (hb.mono (by omega)))⟩
  obtain ⟨fl, hfl⟩ : ∃ fl, fl = (R i).fl := ⟨_, rfl⟩
  obtain ⟨ck, hck⟩ : ∃ ck, ck = (R i).chk := ⟨_, rfl⟩
  obtain ⟨R', hR'⟩ : ∃ R', R' = changed R i wt en := ⟨_, rfl⟩
  obtain ⟨h1, hh1⟩ : ∃ h1, h1 = (if wt then (if (R i).pv = 0 then (R i).nx else hh) else hh) := ⟨_, rfl⟩
  obtain ⟨t1, ht1⟩ : ∃ t1, t1 = (if wt then (if (R i).nx = 0 then (R i).pv else tt) else tt) := ⟨_, rfl⟩
  rw [← hR', ← hh1, ← ht1]
  have HC : Hid (∀ W, Mem W n R S hh tt → Calls Yba.prog 9 #[.pointer (some ⟨n + 2, 0, none⟩), .int .u32 (r : Int)] W fun e w' => e = .returned (.tuple #[]) ∧
      Mem w' n (setFl (removed R i) i (bits .andNot .u8 (R i).fl 1)) S (if (R i).pv = 0 then (R i).nx else hh) (if (R i).nx = 0 then (R i).pv else tt) ∧ But n W w') := fun W hW => withdraw_row W n R S hh tt i r hW hi hr hp8 hx8 hpi hxi
  rw [← hfl] at hwt
  obtain ⟨ck', hck'⟩ : ∃ ck', IntKind.u32.wrap (ck + 1) = ck' := ⟨_, rfl⟩
  have HFL := Hid.mk hfl
  have HCK := Hid.mk hck
  have HR' := Hid.mk hR'
  have HH1 := Hid.mk hh1
  have HT1 := Hid.mk ht1
  have HP := Hid.mk hP
  have HRI := Hid.mk hr
  have HB0 := Hid.mk hB0
  have hS0 : Below (w.heap.size + 1) W0 W0 ∧ W0.rangeAt w.heap.size 17 cs := ⟨Below.refl _ _, hr0⟩
  clear hfl hck hR' hh1 ht1 hP hr hB0 hM hM0 hr0 hp8 hx8 hpi hxi hcs hAf
  go_enter Yba.func5, Yba.ntmps5
  go_upto_region 1 with fail
  rw [← hW]
  clear hW
  go_region_held3 (fun w' => Below (w.heap.size + 1) W0 w' ∧ w'.rangeAt w.heap.size 17 cs) (first | assumption | exact gs_drew (by assumption))
    ((go_at_call 6; refine (tfind_in HF HP.out HA hs0 _ (by assumption)).mono ?_; rintro e w2 ⟨rfl, hS2⟩))
  clear hS0
  have hM2 := (HF.out w2 hS2.1).2
  have HM2 := Hid.mk hM2
  have HB2 : Hid (But n w w2) := But.below (HB0.out.trans (hS2.1.mono (by omega)))
  have c45 : w2.cell? ⟨n + 3, i * 48 + 45, none⟩ = some (.int .u8 fl) := by have := (hM2.fl i hi).1; rw [← HFL.out] at this; exact this
  clear hS2 hM2
  cases wt
  · have hb : bits .and .u8 fl 1 = 0 := by simpa using hwt
    have c38 : w2.cell? ⟨n + 3, i * 48 + 38, none⟩ = some (.int .u32 ck) := by have := (HM2.out.chk i hi).1; rw [← HCK.out] at this; exact this
    have d38 := (HM2.out.chk i hi).2
    have c34 := (HM2.out.en i hi).1
    have d34 := (HM2.out.en i hi).2
    clear hwt
    go_wp2_with (go_at_call 8; refine (HM2.out.at_ok hi HRI).mono ?_; rintro e w2 ⟨rfl, rfl⟩)
    go_ret
    refine ⟨rfl, ?_, (HB2.out.set _ _ _ (.inr rfl)).set _ _ _ (.inr rfl)⟩
    rw [HR'.out, HH1.out, HT1.out]
    simp only [changed, ← HCK.out, hck']
    exact (HM2.out.setChk i ck' hi).setEn i en hi
  · have hb : bits .and .u8 fl 1 = 1 := by simpa using hwt
    clear hwt
    go_wp2_with (first | (go_at_call 8; refine (HM2.out.at_ok hi HRI).mono ?_; rintro e w2 ⟨rfl, rfl⟩) | (go_at_call 9; refine (HC.out w2 HM2.out).mono ?_; rintro e w3 ⟨rfl, hM3, hB3⟩; have c38 : w3.cell? ⟨n + 3, i * 48 + 38, none⟩ = some (.int .u32 ck) := (wd_chk hM3 hi HCK); have d38 := (hM3.chk i hi).2; have c34 := (hM3.en i hi).1; have d34 := (hM3.en i hi).2; have HM3 := Hid.mk hM3; have HB3 := Hid.mk hB3; clear hM3 hB3 c45))
    go_ret
    refine ⟨rfl, ?_, ((HB2.out.trans HB3.out).set _ _ _ (.inr rfl)).set _ _ _ (.inr rfl)⟩
    rw [HR'.out, HH1.out, HT1.out]
    simp only [changed, ← HCK.out, hck', if_true]
    exact (HM3.out.setChk i ck' hi).setEn i en hi

end Go.Proofs.Ybulkatum.Ap
