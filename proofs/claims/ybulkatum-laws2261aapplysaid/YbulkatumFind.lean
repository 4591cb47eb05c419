import Derived.Test.YbulkatumKey
import Derived.ChangeKeysEq
import Derived.Laws.StructEq
import Derived.Laws.BitsAllLaws
import Derived.Deep.Cut
import Derived.Deep.LoopGhost
namespace Go.Proofs.Ybulkatum.Ap
open Go.RowKit
set_option linter.unusedVariables false

theorem part_id (f : Nat → UInt8) (j : Nat) (hj : j < 16) (W : World) : (part 5 (idArr f) (j * 1)).run Yba.prog W = .ok (.int .u8 ((f j).toNat : Int)) W := by
  have : (idArr f)[j]? = some (.int .u8 ((f j).toNat : Int)) := by rw [← idArr_eq]; simpa using idList_get f j hj
  simp [part, Yba.isAgg5, this]

theorem info5 : ∃ i, Yba.prog.info? 5 = some i := by
  have : (Yba.prog.info? 5).isSome = true := by kernel_rfl
  exact Option.isSome_iff_exists.1 this
theorem cells5 : Yba.prog.cellsOf 5 = 1 := by kernel_rfl

theorem eqItems_id (d : Nat) (f g : Nat → UInt8) (W : World) : ∀ is : List Nat, (∀ j ∈ is, j < 16) → (Op.eqItems (d + 1) 5 1 (idArr f) (idArr g) is).run Yba.prog W = .ok (is.all fun j => f j == g j) W
  | [], _ => by simp [Op.eqItems]
  | i :: is, h => by
    have hi := h i (by simp)
    have hr := eqItems_id d f g W is (fun j hj => h j (by simp [hj]))
    have he : (((f i).toNat : Int) == ((g i).toNat : Int)) = (f i == g i) := by
      rw [Bool.eq_iff_iff]
      simp only [beq_iff_eq]
      constructor
      · intro e; exact UInt8.toNat_inj.1 (by omega)
      · intro e; rw [e]
    simp only [Op.eqItems, Sem.run_bind, part_id f i hi W, part_id g i hi W, Result.andThen_ok, run_equalIn_int W d 5 .u8 .u8 _ _ Yba.underlying5, he]
    cases hb : (f i == g i)
    · simp [hb]
    · simp [hb, hr]

theorem eq_ids (f g : Nat → UInt8) (W : World) : (Op.equalIn 10000 113 (.agg (idArr f)) (.agg (idArr g))).run Yba.prog W = .ok ((List.range 16).all fun j => f j == g j) W := by
  obtain ⟨i, hi⟩ := info5
  rw [show (10000 : Nat) = 9999 + 1 from rfl, run_equalIn_array W 9999 _ _ Yba.underlying113 hi, cells5]
  exact eqItems_id 9998 f g W _ (fun j hj => by simpa using hj)

theorem eq_ids_same (f g : Nat → UInt8) (h : ∀ j, j < 16 → f j = g j) (W : World) : (Op.equalIn 10000 113 (.agg (idArr f)) (.agg (idArr g))).run Yba.prog W = .ok true W := by
  rw [eq_ids]
  congr 1
  rw [List.all_eq_true]
  intro j hj
  simp [h j (by simpa using hj)]
theorem eq_ids_other (f g : Nat → UInt8) (h : f 1 ≠ g 1) (W : World) : (Op.equalIn 10000 113 (.agg (idArr f)) (.agg (idArr g))).run Yba.prog W = .ok false W := by
  rw [eq_ids]
  congr 1
  rw [List.all_eq_false]
  exact ⟨1, by simp, by simpa using h⟩

/-- A search from f's home on comes to r. -/
def Probe (R : Nat → Row) (S : Nat → Nat) (f : Nat → UInt8) (r d : Nat) : Prop :=
  d < 16 ∧ S ((le8 f + d) % 16) = r ∧ 1 ≤ r ∧ r ≤ 8 ∧ (∀ j, j < 16 → (R (r - 1)).id j = f j) ∧ ∀ e, e < d → 1 ≤ S ((le8 f + e) % 16) ∧ S ((le8 f + e) % 16) ≤ 8 ∧ (R (S ((le8 f + e) % 16) - 1)).id 1 ≠ f 1

theorem and15 (x : Nat) (h : x < 18446744073709551616) : bits .and .u64 (x : Int) 15 = ((x % 16 : Nat) : Int) := by
  have e : (15 : Int) = ((15 : Nat) : Int) := rfl
  rw [e, u64_and_nat x 15 h (by omega)]
  exact congrArg _ (Nat.and_two_pow_sub_one_eq_mod x 4)

theorem key_in {B b n hh tt : Nat} {W0 : World} {cs : List Value} {R : Nat → Row} {S : Nat → Nat} (HF : Hid (∀ W, Below B W0 W → W.rangeAt b 0 cs ∧ Mem W n R S hh tt)) (hB : W0.heap.size = B) (W : World) (hS : Below B W0 W ∧ W.rangeAt b 0 cs) (p : Addr) (i r : Nat) (hi : i < 8) (hr : r = i + 1) :
    Calls Yba.prog 13 #[.pointer (some p), .pointer (some ⟨n + 2, 44, none⟩), .int .u32 (r : Int)] W fun e w' => e = .returned (.agg (idArr (R i).id)) ∧ (Below B W0 w' ∧ w'.rangeAt b 0 cs) := by
  have hM := (HF.out W hS.1).2
  refine (key_row W p n i r (R i).id hi hr hM.c44.1 hM.c4.1 (fun j hj => ?_)).mono ?_
  · have := (hM.rows i hi j (by omega)).1
    rw [this]
    simp [rowCell, hj]
  · rintro e w' ⟨rfl, h⟩
    have h2 := below_up hS.1 h hB
    exact ⟨rfl, h2, (HF.out w' h2).1⟩
theorem fs_drew {B b : Nat} {W0 W : World} {cs : List Value} (h : Below B W0 W ∧ W.rangeAt b 0 cs) : Below B W0 W.drew ∧ W.drew.rangeAt b 0 cs := ⟨h.1.drew, by simpa using h.2⟩

attribute [local go_sem ↓] Go.wp_at_zero Go.wp_at_succ
set_option maxRecDepth 20000 in
theorem find_row (w : World) (n : Nat) (R : Nat → Row) (S : Nat → Nat) (hh tt : Nat) (f : Nat → UInt8) (r d : Nat) (hM : Mem w n R S hh tt) (hP : Probe R S f r d) :
    Calls Yba.prog 10 #[.pointer (some ⟨n + 2, 47, none⟩), .pointer (some ⟨n + 2, 44, none⟩), .agg (idArr f)] w fun e w' => e = .returned (.int .u32 (r : Int)) ∧ Below w.heap.size w w' := by
  obtain ⟨cs, hA⟩ : ∃ cs, cs = idList f := ⟨_, rfl⟩
  have hAs : cs.length = 16 := by rw [hA]; exact idList_length f
  have hAs' : cs.toArray.size = 16 := by simpa using hAs
  have hi1 : (Yba.prog.info? 113).map (·.size) = some cs.length := by rw [hAs]; exact info113
  have hu := Yba.underlying113
  have HA : Hid (idArr f = cs.toArray) := by rw [hA]; rfl
  rw [HA.out]
  obtain ⟨W0, hW⟩ : ∃ W0, W0 = w.alloc (.cells cs.toArray 113) := ⟨_, rfl⟩
  have hB0 : Below w.heap.size w W0 := by rw [hW]; exact (Below.refl _ _).alloc (Nat.le_refl _) _
  have hs0 : W0.heap.size = w.heap.size + 1 := by rw [hW]; simp
  have hr0 : W0.rangeAt w.heap.size 0 cs := fun j v hv => by rw [hW, Nat.zero_add, World.cell?_alloc_new]; simpa using hv
  have hF : ∀ W, Below (w.heap.size + 1) W0 W → W.rangeAt w.heap.size 0 cs ∧ Mem W n R S hh tt := fun W hb => ⟨fun j v hv => by
    rw [hb.cell (p := ⟨w.heap.size, 0 + j, none⟩) (by simp)]; exact hr0 j v hv, hM.keep (Keeps.below (hB0.trans (hb.mono (by omega))))⟩
  have HF := Hid.mk hF
  have HM := Hid.mk hM
  have HP := Hid.mk hP
  have hm44 := hM.c44.1
  have hm47 : W0.cell? ⟨n + 2, 47, none⟩ = _ := (hF W0 (Below.refl _ _)).2.c47.1
  have HB0 := Hid.mk hB0
  clear hF hM hP hA hr0 hB0
  go_enter Yba.func10, Yba.ntmps10
  go_upto_region 1 with fail
  rw [← hW]
  clear hW
  obtain ⟨x, hx⟩ : ∃ x, x = le8 f := ⟨_, rfl⟩
  have hand : bits .and .u64 (x : Int) 15 = ((x % 16 : Nat) : Int) := by rw [hx]; exact and15 _ (le8_lt f)
  obtain ⟨p, hp⟩ : ∃ p, p = x % 16 := ⟨_, rfl⟩
  rw [← hp] at hand
  have HX := Hid.mk hx
  have HPP := Hid.mk hp
  clear hp hx
  have hF0 := HF.out W0 (Below.refl _ _)
  go_wp2_with (refine wpList_load_mid rfl 113 (.tmp 5) rfl w.heap.size 0 rfl cs _ hF0.1 hu rfl hi1 ?_)
  rw [← HA.out]
  refine (home_at f W0).mono ?_
  rintro e w1 ⟨rfl, hb1⟩
  rw [HA.out, ← HX.out]
  have hb1' : Below (w.heap.size + 1) W0 w1 := hb1.mono (by omega)
  clear hb1 hm44 hm47 hF0
  go_wp2
  go_loopg [8] d (fun g i wr => ∃ e, e ≤ d ∧ g = d - e ∧ i = .int .u64 (((x + e) % 16 : Nat) : Int) ∧ Below (w.heap.size + 1) W0 wr)
  case atStart => exact ⟨0, Nat.zero_le _, by omega, by rw [HPP.out]; rfl, hb1'⟩
  case round =>
    obtain ⟨e, hed, hgk, rfl, hbr⟩ := hrel
    clear hb1'
    have HGK := Hid.mk hgk
    clear hgk
    obtain ⟨q, hq⟩ : ∃ q, q = (x + e) % 16 := ⟨_, rfl⟩
    rw [← hq]
    have hq16 : q < 16 := by omega
    have hq16' : (q : Int) < 16 := by omega
    obtain ⟨r', hr'⟩ : ∃ r', r' = S q := ⟨_, rfl⟩
    have hFr := HF.out wr hbr
    have c47 := hFr.2.c47.1
    have cq : wr.cell? ⟨n + 5, q, none⟩ = some (.int .u32 (r' : Int)) := by rw [hr']; exact (hFr.2.slots q hq16).1
    have hS0 : Below (w.heap.size + 1) W0 wr ∧ wr.rangeAt w.heap.size 0 cs := ⟨hbr, hFr.1⟩
    have HQ := Hid.mk hq
    have HR' := Hid.mk hr'
    clear hFr hq hr'
    by_cases hlt : e < d
    · have hpr := HP.out.2.2.2.2.2 e hlt
      rw [← HX.out, ← HQ.out, ← HR'.out] at hpr
      obtain ⟨p1, p2, p3⟩ := hpr
      have t0 : ((r' : Int) == 0) = false := by simp; omega
      obtain ⟨i', hi'⟩ : ∃ i', i' = r' - 1 := ⟨_, rfl⟩
      rw [← hi'] at p3
      have hi8 : i' < 8 := by omega
      have HRI : Hid (r' = i' + 1) := by show r' = i' + 1; omega
      have heq : ∀ W, (Op.equalIn 10000 113 (.agg (idArr (R i').id)) (.agg cs.toArray)).run Yba.prog W = .ok false W := by rw [← HA.out]; exact eq_ids_other _ _ p3
      clear p1 p2 p3 hi'
      obtain ⟨q', hq'⟩ : ∃ q', q' = (q + 1) % 16 := ⟨_, rfl⟩
      have hand' : bits .and .u64 ((q : Int) + 1) 15 = (q' : Int) := by rw [hq']; exact and15 (q + 1) (by omega)
      have HQ' := Hid.mk hq'
      clear hq'
      go_upto_region 7 with fail
      go_region_held3 (fun w' => Below (w.heap.size + 1) W0 w' ∧ w'.rangeAt w.heap.size 0 cs) (first | assumption | exact fs_drew (by assumption))
        ((go_at_call 13; refine (key_in HF hs0 _ (by assumption) _ i' r' hi8 HRI.out).mono ?_; rintro e w2 ⟨rfl, hS2⟩))
      go_wp2
      go_roundg (d - (e + 1))
      case measure => have := HGK.out; omega
      case rel => exact ⟨e + 1, by omega, rfl, by rw [HQ'.out, HQ.out]; congr 2; omega, hS2.1⟩
    · have hde : e = d := by omega
      subst hde
      have hP := HP.out
      rw [Probe, ← HX.out, ← HQ.out, ← HR'.out] at hP
      obtain ⟨p0, rfl, p1, p2, p3, -⟩ := hP
      have t0 : ((r' : Int) == 0) = false := by simp; omega
      obtain ⟨i', hi'⟩ : ∃ i', i' = r' - 1 := ⟨_, rfl⟩
      rw [← hi'] at p3
      have hi8 : i' < 8 := by omega
      have HRI : Hid (r' = i' + 1) := by show r' = i' + 1; omega
      have heq : ∀ W, (Op.equalIn 10000 113 (.agg (idArr (R i').id)) (.agg cs.toArray)).run Yba.prog W = .ok true W := by rw [← HA.out]; exact eq_ids_same _ _ p3
      clear p0 p1 p2 p3 hi'
      go_upto_region 7 with fail
      go_region_held3 (fun w' => Below (w.heap.size + 1) W0 w' ∧ w'.rangeAt w.heap.size 0 cs) (first | assumption | exact fs_drew (by assumption))
        ((go_at_call 13; refine (key_in HF hs0 _ (by assumption) _ i' r' hi8 HRI.out).mono ?_; rintro e w2 ⟨rfl, hS2⟩))
      go_wp2
      go_ret
      exact ⟨rfl, HB0.out.trans (hS2.1.mono (by omega))⟩

theorem find_in {B b n hh tt : Nat} {W0 : World} {cs : List Value} {R : Nat → Row} {S : Nat → Nat} {f : Nat → UInt8} {r d : Nat} (HF : Hid (∀ W, Below B W0 W → W.rangeAt b 0 cs ∧ Mem W n R S hh tt)) (hP : Probe R S f r d) (HA : Hid (idArr f = cs.toArray)) (hB : W0.heap.size = B) (W : World) (hS : Below B W0 W ∧ W.rangeAt b 0 cs) :
    Calls Yba.prog 10 #[.pointer (some ⟨n + 2, 47, none⟩), .pointer (some ⟨n + 2, 44, none⟩), .agg cs.toArray] W fun e w' => e = .returned (.int .u32 (r : Int)) ∧ (Below B W0 w' ∧ w'.rangeAt b 0 cs) := by
  rw [← HA.out]
  refine (find_row W n R S hh tt f r d (HF.out W hS.1).2 hP).mono ?_
  rintro e w' ⟨rfl, h⟩
  have h2 := below_up hS.1 h hB
  exact ⟨rfl, h2, (HF.out w' h2).1⟩

set_option maxRecDepth 20000 in
theorem tfind_row (w : World) (n : Nat) (R : Nat → Row) (S : Nat → Nat) (hh tt : Nat) (f : Nat → UInt8) (r d : Nat) (hM : Mem w n R S hh tt) (hP : Probe R S f r d) :
    Calls Yba.prog 6 #[.pointer (some ⟨n + 2, 44, none⟩), .agg (idArr f)] w fun e w' => e = .returned (.int .u32 (r : Int)) ∧ Below w.heap.size w w' := by
  obtain ⟨cs, hA⟩ : ∃ cs, cs = idList f := ⟨_, rfl⟩
  have hAs : cs.length = 16 := by rw [hA]; exact idList_length f
  have hAs' : cs.toArray.size = 16 := by simpa using hAs
  have hi1 : (Yba.prog.info? 113).map (·.size) = some cs.length := by rw [hAs]; exact info113
  have hu := Yba.underlying113
  have HA : Hid (idArr f = cs.toArray) := by rw [hA]; rfl
  rw [HA.out]
  obtain ⟨W0, hW⟩ : ∃ W0, W0 = w.alloc (.cells cs.toArray 113) := ⟨_, rfl⟩
  have hB0 : Below w.heap.size w W0 := by rw [hW]; exact (Below.refl _ _).alloc (Nat.le_refl _) _
  have hs0 : W0.heap.size = w.heap.size + 1 := by rw [hW]; simp
  have hr0 : W0.rangeAt w.heap.size 0 cs := fun j v hv => by rw [hW, Nat.zero_add, World.cell?_alloc_new]; simpa using hv
  have HF : Hid (∀ W, Below (w.heap.size + 1) W0 W → W.rangeAt w.heap.size 0 cs ∧ Mem W n R S hh tt) := fun W hb => ⟨fun j v hv => by
    rw [hb.cell (p := ⟨w.heap.size, 0 + j, none⟩) (by simp)]; exact hr0 j v hv, hM.keep (Keeps.below (hB0.trans (hb.mono (by omega))))⟩
  have HP := Hid.mk hP
  have HB0 := Hid.mk hB0
  clear hM hP hA hB0
  go_enter Yba.func6, Yba.ntmps6
  go_upto_region 1 with fail
  rw [← hW]
  have hS0 : Below (w.heap.size + 1) W0 W0 ∧ W0.rangeAt w.heap.size 0 cs := ⟨Below.refl _ _, hr0⟩
  clear hW hr0
  go_region_held3 (fun w' => Below (w.heap.size + 1) W0 w' ∧ w'.rangeAt w.heap.size 0 cs) (first | assumption | exact fs_drew (by assumption))
    ((go_at_call 10; refine (find_in HF HP.out HA hs0 _ (by assumption)).mono ?_; rintro e w2 ⟨rfl, hS2⟩))
  go_wp2
  go_ret
  exact ⟨rfl, HB0.out.trans (hS2.1.mono (by omega))⟩

end Go.Proofs.Ybulkatum.Ap
