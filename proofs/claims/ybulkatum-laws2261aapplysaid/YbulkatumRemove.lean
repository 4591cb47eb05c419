import Derived.Test.YbulkatumFind
import Derived.Deep.CutRange
namespace Go.Proofs.Ybulkatum.Ap
open Go.RowKit
set_option linter.unusedVariables false

/-- All blocks but the list's (n + 1) and the rows' (n + 3) stand. -/
structure But (n : Nat) (w w' : World) : Prop where
  os : w'.os = w.os
  tape : w'.tape = w.tape
  output : w'.output = w.output
  size : w.heap.size ≤ w'.heap.size
  block : ∀ k, k < w.heap.size → k ≠ n + 1 → k ≠ n + 3 → w'.heap[k]? = w.heap[k]?
theorem But.refl (n : Nat) (w : World) : But n w w := ⟨rfl, rfl, rfl, Nat.le_refl _, fun _ _ _ _ => rfl⟩
theorem But.trans {n : Nat} {a b c : World} (h : But n a b) (k : But n b c) : But n a c :=
  ⟨k.os.trans h.os, k.tape.trans h.tape, k.output.trans h.output, Nat.le_trans h.size k.size, fun i hi h1 h2 => (k.block i (by have := h.size; omega) h1 h2).trans (h.block i hi h1 h2)⟩
theorem But.below {n : Nat} {a b : World} (h : Below a.heap.size a b) : But n a b := ⟨h.os, h.tape, h.output, h.size, fun k hk _ _ => h.block k hk⟩
theorem But.drew {n : Nat} {a b : World} (h : But n a b) : But n a b.drew := ⟨h.os, h.tape, h.output, h.size, h.block⟩
theorem But.set {n : Nat} {a b : World} (h : But n a b) (q o : Nat) (v : Value) (hq : q = n + 1 ∨ q = n + 3) : But n a (b.setCell ⟨q, o, none⟩ v) :=
  h.trans ⟨rfl, rfl, rfl, by simp [World.setCell], fun k hk h1 h2 => Below.heap_setCell _ _ _ _ (by show k ≠ q; omega)⟩
theorem But.toBelow {n : Nat} {a b : World} (h : But n a b) (hn : n < a.heap.size) : Below (n + 1) a b := ⟨h.os, h.tape, h.output, h.size, fun k hk => h.block k (by omega) (by omega) (by omega)⟩

def setPv (R : Nat → Row) (i v : Nat) : Nat → Row := fun j => if j = i then { R j with pv := v } else R j
def setNx (R : Nat → Row) (i v : Nat) : Nat → Row := fun j => if j = i then { R j with nx := v } else R j
def setFl (R : Nat → Row) (i : Nat) (v : Int) : Nat → Row := fun j => if j = i then { R j with fl := v } else R j
def setChk (R : Nat → Row) (i : Nat) (v : Int) : Nat → Row := fun j => if j = i then { R j with chk := v } else R j
def setEn (R : Nat → Row) (i : Nat) (v : Int) : Nat → Row := fun j => if j = i then { R j with en := v } else R j

theorem Mem.pv {w : World} {n : Nat} {R : Nat → Row} {S : Nat → Nat} {h t : Nat} (m : Mem w n R S h t) (i : Nat) (hi : i < 8) : Cell w (n + 3) (i * 48 + 46) (.int .u32 ((R i).pv : Int)) := m.rows i hi 46 (by omega)
theorem Mem.nx {w : World} {n : Nat} {R : Nat → Row} {S : Nat → Nat} {h t : Nat} (m : Mem w n R S h t) (i : Nat) (hi : i < 8) : Cell w (n + 3) (i * 48 + 47) (.int .u32 ((R i).nx : Int)) := m.rows i hi 47 (by omega)
theorem Mem.fl {w : World} {n : Nat} {R : Nat → Row} {S : Nat → Nat} {h t : Nat} (m : Mem w n R S h t) (i : Nat) (hi : i < 8) : Cell w (n + 3) (i * 48 + 45) (.int .u8 (R i).fl) := m.rows i hi 45 (by omega)
theorem Mem.chk {w : World} {n : Nat} {R : Nat → Row} {S : Nat → Nat} {h t : Nat} (m : Mem w n R S h t) (i : Nat) (hi : i < 8) : Cell w (n + 3) (i * 48 + 38) (.int .u32 (R i).chk) := m.rows i hi 38 (by omega)
theorem Mem.en {w : World} {n : Nat} {R : Nat → Row} {S : Nat → Nat} {h t : Nat} (m : Mem w n R S h t) (i : Nat) (hi : i < 8) : Cell w (n + 3) (i * 48 + 34) (.int .i64 (R i).en) := m.rows i hi 34 (by omega)
theorem Mem.grp {w : World} {n : Nat} {R : Nat → Row} {S : Nat → Nat} {h t : Nat} (m : Mem w n R S h t) (i : Nat) (hi : i < 8) : Cell w (n + 3) (i * 48 + 40) (.int .u32 0) := m.rows i hi 40 (by omega)

theorem Mem.setPv {w : World} {n : Nat} {R : Nat → Row} {S : Nat → Nat} {h t : Nat} (m : Mem w n R S h t) (i v : Nat) (hi : i < 8) : Mem (w.setCell ⟨n + 3, i * 48 + 46, none⟩ (.int .u32 (v : Int))) n (setPv R i v) S h t :=
  m.setRow i 46 _ hi (by omega) (fun j hj => by simp [Ap.setPv, hj]) (fun c hc hne => by simp only [Ap.setPv, if_true, rowCell]; simp only [if_neg hne]) (by simp [Ap.setPv, rowCell])
theorem Mem.setNx {w : World} {n : Nat} {R : Nat → Row} {S : Nat → Nat} {h t : Nat} (m : Mem w n R S h t) (i v : Nat) (hi : i < 8) : Mem (w.setCell ⟨n + 3, i * 48 + 47, none⟩ (.int .u32 (v : Int))) n (setNx R i v) S h t :=
  m.setRow i 47 _ hi (by omega) (fun j hj => by simp [Ap.setNx, hj]) (fun c hc hne => by
    simp only [Ap.setNx, if_true, rowCell]
    repeat' split
    all_goals first | rfl | omega) (by simp [Ap.setNx, rowCell])
theorem Mem.setFl {w : World} {n : Nat} {R : Nat → Row} {S : Nat → Nat} {h t : Nat} (m : Mem w n R S h t) (i : Nat) (v : Int) (hi : i < 8) : Mem (w.setCell ⟨n + 3, i * 48 + 45, none⟩ (.int .u8 v)) n (setFl R i v) S h t :=
  m.setRow i 45 _ hi (by omega) (fun j hj => by simp [Ap.setFl, hj]) (fun c hc hne => by simp only [Ap.setFl, if_true, rowCell]; simp only [if_neg hne]) (by simp [Ap.setFl, rowCell])
theorem Mem.setChk {w : World} {n : Nat} {R : Nat → Row} {S : Nat → Nat} {h t : Nat} (m : Mem w n R S h t) (i : Nat) (v : Int) (hi : i < 8) : Mem (w.setCell ⟨n + 3, i * 48 + 38, none⟩ (.int .u32 v)) n (setChk R i v) S h t :=
  m.setRow i 38 _ hi (by omega) (fun j hj => by simp [Ap.setChk, hj]) (fun c hc hne => by simp only [Ap.setChk, if_true, rowCell]; simp only [if_neg hne]) (by simp [Ap.setChk, rowCell])
theorem Mem.setEn {w : World} {n : Nat} {R : Nat → Row} {S : Nat → Nat} {h t : Nat} (m : Mem w n R S h t) (i : Nat) (v : Int) (hi : i < 8) : Mem (w.setCell ⟨n + 3, i * 48 + 34, none⟩ (.int .i64 v)) n (setEn R i v) S h t :=
  m.setRow i 34 _ hi (by omega) (fun j hj => by simp [Ap.setEn, hj]) (fun c hc hne => by simp only [Ap.setEn, if_true, rowCell]; simp only [if_neg hne]) (by simp [Ap.setEn, rowCell])
theorem Mem.drew {w : World} {n : Nat} {R : Nat → Row} {S : Nat → Nat} {h t : Nat} (m : Mem w n R S h t) : Mem w.drew n R S h t := m.keep (Keeps.refl _).drew

/-- What 'remove' makes of the rows. -/
def cutPv (R : Nat → Row) (i : Nat) : Nat → Row := if (R i).pv = 0 then R else setNx R ((R i).pv - 1) (R i).nx
def cutNx (R : Nat → Row) (i : Nat) : Nat → Row := if (R i).nx = 0 then R else setPv R ((R i).nx - 1) (R i).pv
def removed (R : Nat → Row) (i : Nat) : Nat → Row := setNx (setPv (cutNx (cutPv R i) i) i 0) i 0

theorem rs_store {W : World} {a1 a2 a3 a4 : Addr} {v1 v2 v3 v4 : Option Value} (h : W.cell? a1 = v1 ∧ W.cell? a2 = v2 ∧ W.cell? a3 = v3 ∧ W.cell? a4 = v4) (a : Addr) (v : Value) (n1 : a ≠ a1) (n2 : a ≠ a2) (n3 : a ≠ a3) (n4 : a ≠ a4) :
    (W.setCell a v).cell? a1 = v1 ∧ (W.setCell a v).cell? a2 = v2 ∧ (W.setCell a v).cell? a3 = v3 ∧ (W.setCell a v).cell? a4 = v4 := by
  rw [World.cell?_setCell_other _ _ _ _ n1, World.cell?_setCell_other _ _ _ _ n2, World.cell?_setCell_other _ _ _ _ n3, World.cell?_setCell_other _ _ _ _ n4]
  exact h
theorem rs_drew {W : World} {a1 a2 a3 a4 : Addr} {v1 v2 v3 v4 : Option Value} (h : W.cell? a1 = v1 ∧ W.cell? a2 = v2 ∧ W.cell? a3 = v3 ∧ W.cell? a4 = v4) : W.drew.cell? a1 = v1 ∧ W.drew.cell? a2 = v2 ∧ W.drew.cell? a3 = v3 ∧ W.drew.cell? a4 = v4 := by simpa using h
theorem at_in {n i r : Nat} {W : World} {a1 a2 : Addr} {v1 v2 : Option Value} (h : W.cell? a1 = v1 ∧ W.cell? a2 = v2 ∧ W.cell? ⟨n + 2, 44, none⟩ = some (.slice (some ⟨n + 4, 0, none⟩) 1 1) ∧ W.cell? ⟨n + 4, 0, none⟩ = some (.pointer (some ⟨n + 3, 0, none⟩))) (hi : i < 8) (hr : Hid (r = i + 1)) :
    Calls Yba.prog 8 #[.pointer (some ⟨n + 2, 44, none⟩), .int .u32 (r : Int)] W fun e w' => e = .returned (.pointer (some ⟨n + 3, i * 48, none⟩)) ∧ w' = W :=
  at_row W n i r hi hr.out h.2.2.1 h.2.2.2

attribute [local go_sem ↓] Go.wp_at_zero Go.wp_at_succ
set_option maxRecDepth 20000 in
theorem remove_row (w : World) (n : Nat) (R : Nat → Row) (S : Nat → Nat) (hh tt i r : Nat) (hM : Mem w n R S hh tt) (hi : i < 8) (hr : r = i + 1) (hp8 : (R i).pv ≤ 8) (hx8 : (R i).nx ≤ 8) (hpi : (R i).pv ≠ i + 1) (hxi : (R i).nx ≠ i + 1) :
    Calls Yba.prog 12 #[.pointer (some ⟨n + 1, 2, none⟩), .pointer (some ⟨n + 2, 44, none⟩), .int .u32 (r : Int)] w fun e w' => e = .returned (.tuple #[]) ∧
      Mem w' n (removed R i) S (if (R i).pv = 0 then (R i).nx else hh) (if (R i).nx = 0 then (R i).pv else tt) ∧ But n w w' := by
  obtain ⟨p, hp⟩ : ∃ p, p = (R i).pv := ⟨_, rfl⟩
  obtain ⟨x, hx⟩ : ∃ x, x = (R i).nx := ⟨_, rfl⟩
  have HR := Hid.mk hr
  clear hr
  have c46 : w.cell? ⟨n + 3, i * 48 + 46, none⟩ = some (.int .u32 (p : Int)) := by rw [hp]; exact (hM.pv i hi).1
  have c47 : w.cell? ⟨n + 3, i * 48 + 47, none⟩ = some (.int .u32 (x : Int)) := by rw [hx]; exact (hM.nx i hi).1
  have hS0 : w.cell? ⟨n + 3, i * 48 + 46, none⟩ = some (.int .u32 (p : Int)) ∧ w.cell? ⟨n + 3, i * 48 + 47, none⟩ = some (.int .u32 (x : Int)) ∧ w.cell? ⟨n + 2, 44, none⟩ = some (.slice (some ⟨n + 4, 0, none⟩) 1 1) ∧ w.cell? ⟨n + 4, 0, none⟩ = some (.pointer (some ⟨n + 3, 0, none⟩)) := ⟨c46, c47, hM.c44.1, hM.c4.1⟩
  have HS0 := Hid.mk hS0
  have HM := Hid.mk hM
  have m1 : (cutPv R i i).pv = p ∧ (cutPv R i i).nx = x := by
    unfold cutPv
    split
    · exact ⟨hp.symm, hx.symm⟩
    · simp only [setNx]
      rw [if_neg (by omega)]
      exact ⟨hp.symm, hx.symm⟩
  have HP := Hid.mk hp
  have HX := Hid.mk hx
  rw [← hp] at hp8 hpi ⊢
  rw [← hx] at hx8 hxi ⊢
  have HM1 := Hid.mk m1
  obtain ⟨h1, hh1⟩ : ∃ h1, h1 = (if p = 0 then x else hh) := ⟨_, rfl⟩
  obtain ⟨t1, ht1⟩ : ∃ t1, t1 = (if x = 0 then p else tt) := ⟨_, rfl⟩
  rw [← hh1, ← ht1]
  have HH1 := Hid.mk hh1
  have HT1 := Hid.mk ht1
  clear m1 hM hp hx hS0 hh1 ht1
  go_enter Yba.func12, Yba.ntmps12
  go_upto_if 14 with (go_at_call 8; refine (at_in HS0.out hi HR).mono ?_; rintro e w ⟨rfl, rfl⟩)
  clear c47
  go_cut [] from 14 to 33 (fun wx => Mem wx n (cutPv R i) S h1 tt ∧ But n w wx)
  case first =>
    by_cases hp0 : p = 0
    · subst hp0
      have hMh := HM.out.hd
      have c1 := hMh.1
      have c2 := hMh.2
      have c47 := HS0.out.2.1
      have e1 := HP.out
      have R1 : Mem (w.setCell ⟨n + 1, 2, none⟩ (.int .u32 (x : Int))) n (cutPv R i) S x tt := by
        have : cutPv R i = R := by simp [cutPv, ← HP.out]
        rw [this]
        exact HM.out.setHd x
      have HR1 := Hid.mk R1
      clear R1 e1 hMh
      go_wp2
      go_meet
      case rel => rw [HH1.out]; exact ⟨HR1.out, (But.refl _ _).set _ _ _ (.inl rfl)⟩
    · have tp : ((p : Int) == 0) = false := by simp; omega
      obtain ⟨i1, hi1⟩ : ∃ i1, i1 = p - 1 := ⟨_, rfl⟩
      have HP1 : Hid (p = i1 + 1) := by show p = i1 + 1; omega
      have hi18 : i1 < 8 := by omega
      have hne1 : i1 ≠ i := by omega
      have s47 := (HM.out.nx i1 hi18).1
      have f47 := (HM.out.nx i1 hi18).2
      have R1 : Mem (w.setCell ⟨n + 3, i1 * 48 + 47, none⟩ (.int .u32 (x : Int))).drew n (cutPv R i) S hh tt := by
        have : cutPv R i = setNx R i1 x := by simp only [cutPv, ← HP.out, ← HX.out, if_neg hp0, hi1]
        rw [this]
        exact (HM.out.setNx i1 x hi18).drew
      have HR1 := Hid.mk R1
      have hS0 := HS0.out
      clear R1 hi1 c46
      go_upto_region 2 with fail
      go_region_held3 (fun w' => w'.cell? ⟨n + 3, i * 48 + 46, none⟩ = some (.int .u32 (p : Int)) ∧ w'.cell? ⟨n + 3, i * 48 + 47, none⟩ = some (.int .u32 (x : Int)) ∧ w'.cell? ⟨n + 2, 44, none⟩ = some (.slice (some ⟨n + 4, 0, none⟩) 1 1) ∧ w'.cell? ⟨n + 4, 0, none⟩ = some (.pointer (some ⟨n + 3, 0, none⟩)))
        (first | assumption | exact rs_drew (by assumption) | (refine rs_store (by assumption) _ _ ?_ ?_ ?_ ?_ <;> (intro e; injection e; omega)))
        ((go_at_call 8; refine (at_in (by assumption) hi18 HP1).mono ?_; rintro e w2 ⟨rfl, rfl⟩))
      go_wp2
      go_meet
      case rel =>
        rw [HH1.out, if_neg hp0]
        exact ⟨HR1.out, ((But.refl _ _).set _ _ _ (.inr rfl)).drew⟩
  case rest =>
    obtain ⟨hM1, hB1⟩ := hcut
    clear c46 HS0
    have c46 : wc.cell? ⟨n + 3, i * 48 + 46, none⟩ = some (.int .u32 (p : Int)) := by have := (hM1.pv i hi).1; rw [HM1.out.1] at this; exact this
    have c47 : wc.cell? ⟨n + 3, i * 48 + 47, none⟩ = some (.int .u32 (x : Int)) := by have := (hM1.nx i hi).1; rw [HM1.out.2] at this; exact this
    have HS1 : Hid (wc.cell? ⟨n + 3, i * 48 + 46, none⟩ = some (.int .u32 (p : Int)) ∧ wc.cell? ⟨n + 3, i * 48 + 47, none⟩ = some (.int .u32 (x : Int)) ∧ wc.cell? ⟨n + 2, 44, none⟩ = some (.slice (some ⟨n + 4, 0, none⟩) 1 1) ∧ wc.cell? ⟨n + 4, 0, none⟩ = some (.pointer (some ⟨n + 3, 0, none⟩))) := ⟨c46, c47, hM1.c44.1, hM1.c4.1⟩
    have HMC := Hid.mk hM1
    have HB1 := Hid.mk hB1
    clear hM1 hB1
    go_upto_if 38 with fail
    clear c46
    obtain ⟨wd, hwd⟩ : ∃ wd : World, wd = wc := ⟨_, rfl⟩
    rw [← hwd] at c47 HS1 HMC HB1 ⊢
    clear hwd
    go_cut [] from 38 to 57 (fun wx => Mem wx n (cutNx (cutPv R i) i) S h1 t1 ∧ But n w wx)
    case first =>
      by_cases hx0 : x = 0
      · subst hx0
        have c1 := HMC.out.tl.1
        have c2 := HMC.out.tl.2
        have c46 := HS1.out.1
        have R1 : Mem (wd.setCell ⟨n + 1, 3, none⟩ (.int .u32 (p : Int))) n (cutNx (cutPv R i) i) S h1 p := by
          have : cutNx (cutPv R i) i = cutPv R i := by simp [cutNx, HM1.out.2]
          rw [this]
          exact HMC.out.setTl p
        have HR1 := Hid.mk R1
        clear R1
        go_wp2
        go_meet
        case rel => rw [HT1.out]; exact ⟨HR1.out, HB1.out.set _ _ _ (.inl rfl)⟩
      · have tp : ((x : Int) == 0) = false := by simp; omega
        obtain ⟨i1, hi1⟩ : ∃ i1, i1 = x - 1 := ⟨_, rfl⟩
        have HP1 : Hid (x = i1 + 1) := by show x = i1 + 1; omega
        have hi18 : i1 < 8 := by omega
        have hne1 : i1 ≠ i := by omega
        have s47 := (HMC.out.pv i1 hi18).1
        have f47 := (HMC.out.pv i1 hi18).2
        have R1 : Mem (wd.setCell ⟨n + 3, i1 * 48 + 46, none⟩ (.int .u32 (p : Int))).drew n (cutNx (cutPv R i) i) S h1 tt := by
          have : cutNx (cutPv R i) i = setPv (cutPv R i) i1 p := by simp only [cutNx, HM1.out.1, HM1.out.2, if_neg hx0, hi1]
          rw [this]
          exact (HMC.out.setPv i1 p hi18).drew
        have HR1 := Hid.mk R1
        have hS0 := HS1.out
        clear R1 hi1 c47
        go_upto_region 5 with fail
        go_region_held3 (fun w' => w'.cell? ⟨n + 3, i * 48 + 46, none⟩ = some (.int .u32 (p : Int)) ∧ w'.cell? ⟨n + 3, i * 48 + 47, none⟩ = some (.int .u32 (x : Int)) ∧ w'.cell? ⟨n + 2, 44, none⟩ = some (.slice (some ⟨n + 4, 0, none⟩) 1 1) ∧ w'.cell? ⟨n + 4, 0, none⟩ = some (.pointer (some ⟨n + 3, 0, none⟩)))
          (first | assumption | exact rs_drew (by assumption) | (refine rs_store (by assumption) _ _ ?_ ?_ ?_ ?_ <;> (intro e; injection e; omega)))
          ((go_at_call 8; refine (at_in (by assumption) hi18 HP1).mono ?_; rintro e w2 ⟨rfl, rfl⟩))
        go_wp2
        go_meet
        case rel =>
          rw [HT1.out, if_neg hx0]
          exact ⟨HR1.out, (HB1.out.set _ _ _ (.inr rfl)).drew⟩
    case rest =>
      obtain ⟨hM2, hB2⟩ := hcut
      have d46 := (hM2.pv i hi).1
      have e46 := (hM2.pv i hi).2
      have d47 := (hM2.nx i hi).1
      have e47 := (hM2.nx i hi).2
      have HR : Hid (Mem ((wc.setCell ⟨n + 3, i * 48 + 46, none⟩ (.int .u32 0)).setCell ⟨n + 3, i * 48 + 47, none⟩ (.int .u32 0)) n (removed R i) S h1 t1) := (hM2.setPv i 0 hi).setNx i 0 hi
      have HB := Hid.mk hB2
      clear hM2 hB2 c47 HS1 HMC
      go_wp2
      refine bodyPost_end (results_none rfl _ _ _) rfl ?_
      exact ⟨rfl, HR.out, (HB.out.set _ _ _ (.inr rfl)).set _ _ _ (.inr rfl)⟩

end Go.Proofs.Ybulkatum.Ap
