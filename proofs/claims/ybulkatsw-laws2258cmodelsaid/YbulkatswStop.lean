import Derived.Test.YbulkatswSets
import Derived.Test.YbulkatswShelf
import Derived.WalkSpells
import Derived.WalkLawsBesides
import Derived.Deep.RegionHeld3
import Derived.Deep.MidRow
import Derived.Deep.CutRange
import Derived.Deep.CutBlock
namespace Go.Proofs.Ybulkatsw.Md
open Go Go.RowKit Mf Rw
set_option linter.unusedVariables false

theorem _root_.Go.RowKit.Hid.mk {p : Prop} (h : p) : Hid p := h

/-- What stopWaiting leaves. -/
def StopPost (σ : Nat → Nat) (w : World) (G Bh Be Bw Bq wn : Nat) (bq : Nat → Nat) (A : St) (w' : World) : Prop :=
  ∃ has qv, GP σ w' G Bh Be Bw Bq wn ∧ WP σ w' Bw A.wt ∧ QP σ w' Bq has bq qv A.qu ∧ HasQ has A.qu ∧ Fr σ (fun l => l = 4 ∨ SQ l) w w'

set_option maxRecDepth 100000 in
theorem stop_some {σ : Nat → Nat} {w : World} {G Bh Be Bw Bq wn n : Nat} {A : St} {has : Nat → Bool} {bq : Nat → Nat} {qv : Nat → Nat → Value} (hG : GP σ w G Bh Be Bw Bq wn) (hW : WP σ w Bw A.wt) (hQ : QP σ w Bq has bq qv A.qu)
    (hz : ∀ b, w.heap.size ≤ b → σ b = 0) (hI : Inv n A) (hn : n ≤ 1024) {t r m : Nat} {o : Int} (ht : t < 3) (ho : A.wt t = some (r, m, o)) (hr : r < 3) (hm : m < 2) (hh : has r = true) (hx : A.qu r m ≠ []) (hmem : o ∈ A.qu r m) (hHQ : HasQ has A.qu) :
    Calls Yba.prog 18 #[.pointer (some ⟨G, 0, none⟩), .string (tx t)] w fun e w' => e = .returned (.tuple #[]) ∧ StopPost σ w G Bh Be Bw Bq wn bq (A.unwait t r m o) w' := by
  have hl := hW.look ht
  rw [ho] at hl
  simp only [Option.map_some, Option.getD_some, Option.isSome_some, reqV] at hl
  obtain ⟨T, hT⟩ : ∃ T, w.heap.size = T := ⟨_, rfl⟩
  have zT : σ T = 0 := hz T (by omega)
  -- behind region 0
  have f1 := Fr.alloc σ (fun l => l = 4 ∨ SQ l) w (.cells #[.string (res r), .string (md m), .int .i64 o] 68)
  have t0 := Cell.new w #[.string (res r), .string (md m), .int .i64 o] 68 0 (.string (res r)) rfl
  have t1 := Cell.new w #[.string (res r), .string (md m), .int .i64 o] 68 1 (.string (md m)) rfl
  have t2 := Cell.new w #[.string (res r), .string (md m), .int .i64 o] 68 2 (.int .i64 o) rfl
  rw [hT] at t0 t1 t2
  have G1 := hG.kept (f1.keep (S := (· = 1)) (by rintro l rfl; unfold SQ; omega))
  have W1 := hW.kept (Same.alloc σ (· = 4) w (.cells #[.string (res r), .string (md m), .int .i64 o] 68))
  have Q1 := hQ.kept (Same.alloc σ SQ w (.cells #[.string (res r), .string (md m), .int .i64 o] 68))
  have cw := hG.wt.1
  have c1 := G1.wt.1
  obtain ⟨w2, hdel, W2, g2⟩ := W1.delete ht 0
  clear W1
  -- behind region 2
  have f2 : Fr σ (fun l => l = 4 ∨ SQ l) w w2 := f1.trans (Fr.of_grown g2 (by rintro b e; cases e; exact .inl hW.lab))
  have gw2 : Same σ (fun l => l ≠ 4) (w.alloc (.cells #[.string (res r), .string (md m), .int .i64 o] 68)) w2 := Same.of_grown g2 (by rintro b e; cases e; exact fun h => h hW.lab)
  have G2 := G1.kept (gw2.mono (by rintro l rfl; omega))
  have Q2 := Q1.kept (gw2.mono (by unfold SQ; omega))
  have t0' := t0.of_block (gw2.block T t0.lt (by rw [zT]; omega))
  have t1' := t1.of_block (gw2.block T t0.lt (by rw [zT]; omega))
  have t2' := t2.of_block (gw2.block T t0.lt (by rw [zT]; omega))
  clear t0 t1 t2 f1
  have hlq := (Q2.kept (Same.drew σ SQ w2)).look hr
  have hlm := (Q2.kept (Same.drew σ SQ w2)).lookIn hr hm hh
  rw [if_pos hh] at hlq
  obtain ⟨g, off, cap, cur, hv, hok, hg, hnc, hcs, hcm, htk⟩ := (Q2.vals r hr m hm).pos (by simpa [ints] using hx)
  rw [ints_length] at hv hnc htk
  obtain ⟨b2, hb2⟩ : ∃ b2, bq r = b2 := ⟨_, rfl⟩
  rw [hb2] at hlq hlm
  rw [hv] at hlm
  obtain ⟨k, hk⟩ : ∃ k, (A.qu r m).length = k := ⟨_, rfl⟩
  rw [hk] at hlm
  have d5 := G2.q.1
  have e0 := t0'.1
  have e1 := t1'.1
  have e2 := t2'.1
  have HH : Hid (GP σ w2 G Bh Be Bw Bq wn ∧ QP σ w2 Bq has bq qv A.qu) := ⟨G2, Q2⟩
  have HW2 : Hid (WP σ w2 Bw fun j => if j = t then none else A.wt j) := W2
  have HF2 := Hid.mk f2
  clear G2 Q2 W2 t0' t1' t2' hW hQ hG gw2 G1 Q1 f2 g2 hv
  go_enter Yba.func18, Yba.ntmps18
  go_wp2
  go_region_held3 (fun w' => w'.cell? ⟨G, 5, none⟩ = some (.map (some Bq)) ∧ w'.cell? ⟨T, 0, none⟩ = some (.string (res r)) ∧ (Instr.lookup 64 (.map (some Bq)) (.string (res r)) false).run Yba.prog w' = .ok (.map (some b2)) w')
    (exact ⟨d5, e0, hlq⟩) (fail)
  have hc : ∀ j, j < (A.qu r m).length → w2.drew.cell? ⟨g, off + j, none⟩ = some (.int .i64 ((A.qu r m).getD j 0)) := by
    intro j hj
    refine cell_in (e := 3) (show w2.drew.heap[g]? = _ from hg) htk j _ ?_
    simp [ints, List.getElem?_eq_getElem hj, List.getD_eq_getElem?_getD]
  obtain ⟨i, hi⟩ : ∃ i, (A.qu r m).countP (fun x => decide (x < o)) = i := ⟨_, rfl⟩
  have hbs := Yba.slices_BinarySearch_int g off k cap (A.qu r m) o w2.drew (by omega) (by have := hI.quLen r m; omega) hc (by
    refine (List.Pairwise.imp ?_ (hI.sorted r m)).sublist (List.take_sublist _ _)
    intro a b h
    omega)
  rw [List.take_of_length_le (by omega), hi] at hbs
  have Hbs := Hid.mk hbs
  clear hbs hc
  obtain ⟨hcut1, hcut2, hcut3⟩ := cut_at (hI.sorted r m) hmem
  rw [hi] at hcut1 hcut2
  rw [hk] at hcut1 hcut3
  have Hcut := Hid.mk hcut2
  rw [hk] at hnc
  clear hcut2
  have sig4 : ∀ q, Same σ SQ w2 (w2.drew.drewN q) := fun q => (Same.drew σ SQ w2).trans ((Fr.drewN σ (fun _ => False) w2.drew q).keep (fun _ _ h => h))
  have sig1 : ∀ q, Same σ (· = 1) w2 (w2.drew.drewN q) := fun q => (Same.drew σ _ w2).trans ((Fr.drewN σ (fun _ => False) w2.drew q).keep (fun _ _ h => h))
  have sigW : ∀ q, Same σ (· = 4) w2 (w2.drew.drewN q) := fun q => (Same.drew σ _ w2).trans ((Fr.drewN σ (fun _ => False) w2.drew q).keep (fun _ _ h => h))
  have fr4 : ∀ q, Fr σ (fun l => l = 4 ∨ SQ l) w2 (w2.drew.drewN q) := fun q => (Fr.drew σ _ w2).trans (Fr.drewN σ _ w2.drew q)
  have H4 : Hid (∀ w4 q, w4 = w2.drew.drewN q → GP σ w4 G Bh Be Bw Bq wn ∧ WP σ w4 Bw (fun j => if j = t then none else A.wt j) ∧ QP σ w4 Bq has bq qv A.qu ∧ Fr σ (fun l => l = 4 ∨ SQ l) w w4 ∧ w4.heap[g]? = some (.cells cur 3 (0, 0)) ∧
      w4.cell? ⟨T, 0, none⟩ = some (.string (res r)) ∧ w4.cell? ⟨T, 1, none⟩ = some (.string (md m)) ∧ w4.cell? ⟨G, 5, none⟩ = some (.map (some Bq)) ∧ T < w4.heap.size) := by
    rintro w4 q rfl
    exact ⟨HH.out.1.kept (sig1 q), HW2.out.kept (sigW q), HH.out.2.kept (sig4 q), HF2.out.trans (fr4 q), hg, e0, e1, d5, World.block_lt_of_cell? w2 _ e0⟩
  clear sig4 sig1 sigW fr4 HH HW2
  by_cases hk1 : k = 1
  · subst hk1
    have hnil : (A.qu r m).filter (fun x => decide (x ≠ o)) = [] := List.eq_nil_of_length_eq_zero (by omega)
    have hAu : (A.unwait t r m o).qu = fun r' m' => if r' = r ∧ m' = m then [] else A.qu r' m' := by
      simp only [St.unwait, hnil]
    obtain ⟨qn, hqn⟩ : ∃ qn, (A.unwait t r m o).qu = qn := ⟨_, rfl⟩
    have HAu := Hid.mk hqn
    have Hqe : Hid ((fun r' m' => if r' = r ∧ m' = m then [] else A.qu r' m') = qn) := hAu.symm.trans hqn
    have Hqo : Hid (∀ r', r' ≠ r → ∀ m', qn r' m' = A.qu r' m') := fun r' e m' => by rw [← Hqe.out]; simp [e]
    clear hAu hnil hqn
    go_wp2_with (go_at_call 21; refine Hbs.out.mono ?_; rintro e w4 ⟨rfl, q, hw4⟩; obtain ⟨G4, W4, Q4, F4, hg4, k0, k1, k5, hT4⟩ := H4.out w4 q hw4; obtain ⟨w5, hd5, Q5, g5⟩ := Q4.deleteIn hr hm hh 0; rw [Hqe.out] at Q5; have l5 := Q5.lenIn hr hh 3; rw [hb2] at hd5 l5; have HX : Hid ((GP σ w4 G Bh Be Bw Bq wn ∧ WP σ w4 Bw (fun j => if j = t then none else A.wt j) ∧ QP σ w4 Bq has bq qv A.qu ∧ Fr σ (fun l => l = 4 ∨ SQ l) w w4) ∧ QP σ w5 Bq has bq (fun r' m' => if r' = r ∧ m' = m then .slice none 0 0 else qv r' m') qn) := ⟨⟨G4, W4, Q4, F4⟩, Q5⟩; clear hw4 G4 W4 Q4 F4 Q5; rw [cntQ] at l5; obtain ⟨c, hc⟩ : ∃ c : Nat, ((if qn r 0 ≠ [] then 1 else 0) + (if qn r 1 ≠ [] then 1 else 0)) = c := ⟨_, rfl⟩; rw [hc] at l5; have Hc := Hid.mk hc; clear hc)
    · rename_i hz0
      have hcn : c = 0 := by simpa using hz0
      subst hcn
      obtain ⟨⟨G4, W4, Q4, F4⟩, Q5⟩ := HX.out
      have lab := Q4.labs r hr hh
      have s5 : Same σ (fun l => l ≠ 20 + r) w4 w5 := Same.of_grown g5 (by rintro b e; cases e; exact fun h => h lab)
      have hc := Hc.out
      have h0 : qn r 0 = [] := by
        by_cases a0 : qn r 0 ≠ []
        · rw [if_pos a0] at hc
          omega
        · simpa using a0
      have h1 : qn r 1 = [] := by
        by_cases a0 : qn r 1 ≠ []
        · rw [if_pos a0] at hc
          omega
        · simpa using a0
      have h01 : ∀ m', m' < 2 → qn r m' = [] := by
        intro m' hm'
        match m', hm' with
        | 0, _ => exact h0
        | 1, _ => exact h1
      obtain ⟨w6, hd6, Q6, g6⟩ := (Q5.kept (Same.drew σ SQ w5)).delete hr h01 0
      have s6 : Same σ (fun l => l ≠ 5) w5.drew w6 := Same.of_grown g6 (by rintro b e; cases e; exact fun h => h Q5.lab)
      have G5 := G4.kept (s5.mono (by intro l h; omega))
      have G6 := (G5.kept (Same.drew σ _ w5)).kept (s6.mono (by intro l h; omega))
      have W6 := ((W4.kept (s5.mono (by intro l h; omega))).kept (Same.drew σ _ w5)).kept (s6.mono (by intro l h; omega))
      have F6 : Fr σ (fun l => l = 4 ∨ SQ l) w w6 := ((F4.trans (Fr.of_grown g5 (by rintro b e; cases e; rw [lab]; exact .inr (.inr (.inl ⟨by omega, by omega⟩))))).trans (Fr.drew σ _ w5)).trans (Fr.of_grown g6 (by rintro b e; cases e; rw [Q5.lab]; exact .inr (.inl rfl)))
      have b5 := s5.block T hT4 (by rw [zT]; omega)
      have b6 : w6.heap[T]? = w5.heap[T]? := s6.block T (by have := s5.size; show T < w5.heap.size; omega) (by rw [zT]; omega)
      have i0 : w5.cell? ⟨T, 0, none⟩ = some (.string (res r)) := (World.cell?_of_block b5).trans k0
      have j0 : w6.cell? ⟨T, 0, none⟩ = some (.string (res r)) := (World.cell?_of_block b6).trans i0
      have i5 := G5.q.1
      have j5 := G6.q.1
      have HZ : Hid (GP σ w6 G Bh Be Bw Bq wn ∧ WP σ w6 Bw (fun j => if j = t then none else A.wt j) ∧ QP σ w6 Bq (fun j => if j = r then false else has j) bq (fun r' m' => if r' = r ∧ m' = m then .slice none 0 0 else qv r' m') qn ∧ Fr σ (fun l => l = 4 ∨ SQ l) w w6) := ⟨G6, W6, Q6, F6⟩
      have Hh0 := Hid.mk h0
      have Hh1 := Hid.mk h1
      clear G4 W4 Q4 F4 Q5 G5 G6 W6 Q6 F6 s5 s6 b5 b6 g5 g6 hc h01 h0 h1 HX lab k0 k1 k5
      go_region_held3 (fun w' => w'.cell? ⟨G, 5, none⟩ = some (.map (some Bq)) ∧ w'.cell? ⟨T, 0, none⟩ = some (.string (res r))) (first | exact ⟨i5, i0⟩ | exact ⟨j5, j0⟩) (fail)
      go_wp2
      obtain ⟨G6, W6, Q6, F6⟩ := HZ.out
      refine bodyPost_end (results_none rfl _ _ _) rfl ⟨rfl, _, _, G6, W6, by rw [HAu.out]; exact Q6, ?_, F6⟩
      rw [HAu.out]
      exact hasQ_drop hHQ (r := r) Hqo.out Hh0.out Hh1.out
    · rename_i hz0
      obtain ⟨⟨G4, W4, Q4, F4⟩, Q5⟩ := HX.out
      have lab := Q4.labs r hr hh
      have s5 : Same σ (fun l => l ≠ 20 + r) w4 w5 := Same.of_grown g5 (by rintro b e; cases e; exact fun h => h lab)
      refine bodyPost_end (results_none rfl _ _ _) rfl ⟨rfl, has, _, G4.kept (s5.mono (by intro l h; omega)), W4.kept (s5.mono (by intro l h; omega)), by rw [HAu.out]; exact Q5, ?_, F4.trans (Fr.of_grown g5 (by rintro b e; cases e; rw [lab]; exact .inr (.inr (.inl ⟨by omega, by omega⟩))))⟩
      rw [HAu.out]
      refine hasQ_keep hHQ (r := r) Hqo.out hh ?_
      have hcn : c ≠ 0 := by simpa using hz0
      have hc := Hc.out
      by_cases a0 : qn r 0 ≠ []
      · exact .inl a0
      · by_cases a1 : qn r 1 ≠ []
        · exact .inr a1
        · rw [if_neg a0, if_neg a1] at hc
          omega
  · have q1 : ¬ (k : Int) = 1 := by omega
    by_cases hi0 : i = 0
    · subst hi0
      go_wp2_with (go_at_call 21; refine Hbs.out.mono ?_; rintro e w4 ⟨rfl, q, hw4⟩; obtain ⟨G4, W4, Q4, F4, hg4, k0, k1, k5, hT4⟩ := H4.out w4 q hw4; have HX : Hid (GP σ w4 G Bh Be Bw Bq wn ∧ WP σ w4 Bw (fun j => if j = t then none else A.wt j) ∧ QP σ w4 Bq has bq qv A.qu ∧ Fr σ (fun l => l = 4 ∨ SQ l) w w4) := ⟨G4, W4, Q4, F4⟩; clear hw4 G4 W4 Q4 F4)
      obtain ⟨G4, W4, Q4, F4⟩ := HX.out
      have lab := Q4.labs r hr hh
      obtain ⟨x0, xr, hxr⟩ : ∃ x0 xr, A.qu r m = x0 :: xr := by
        cases hq : A.qu r m with
        | nil => exact absurd hq hx
        | cons a l => exact ⟨a, l, rfl⟩
      have hfl : (A.qu r m).filter (fun x => decide (x ≠ o)) = xr := by rw [← Hcut.out, hxr]; rfl
      have hkr : xr.length + 1 = k := by rw [← hk, hxr]; rfl
      have hxn : xr ≠ [] := by intro e; rw [e] at hkr; simp at hkr; omega
      have hsl : Sl w4 3 (fun g => σ g = 40 + 2 * r + m) (.slice (some ⟨g, off + 1, none⟩) (ints xr).length (cap - 1)) (ints xr) := by
        refine Sl.tail (x := .int .i64 x0) hok hg4 ?_ hcs hcm ?_
        · rw [List.length_cons, ints_length]
          omega
        · rw [hxr] at htk
          simpa [ints] using htk
      rw [ints_length] at hsl
      have hkx : xr.length = k - 1 := by omega
      rw [hkx] at hsl
      obtain ⟨w5, hup, Q5, g5⟩ := (Q4.kept (Same.drew σ SQ w4)).storeIn hr hm hh (Same.refl σ _ w4.drew) hxn hsl
      rw [hb2] at hup
      have s5 : Same σ (fun l => l ≠ 20 + r) w4.drew w5 := Same.of_grown g5 (by rintro b e; cases e; exact fun h => h lab)
      have G5 := (G4.kept (Same.drew σ _ w4)).kept (s5.mono (by intro l h; omega))
      have W5 := (W4.kept (Same.drew σ _ w4)).kept (s5.mono (by intro l h; omega))
      have F5 : Fr σ (fun l => l = 4 ∨ SQ l) w w5 := (F4.trans (Fr.drew σ _ w4)).trans (Fr.of_grown g5 (by rintro b e; cases e; rw [lab]; exact .inr (.inr (.inl ⟨by omega, by omega⟩))))
      have b5 : w5.heap[T]? = w4.heap[T]? := s5.block T hT4 (by rw [zT]; omega)
      have i1 : w5.cell? ⟨T, 1, none⟩ = some (.string (md m)) := (World.cell?_of_block b5).trans k1
      have hqu : (fun r' m' => if r' = r ∧ m' = m then xr else A.qu r' m') = (A.unwait t r m o).qu := by
        simp only [St.unwait, hfl]
      rw [hqu] at Q5
      have HQ5 := Hid.mk Q5
      have HG5 : Hid (GP σ w5 G Bh Be Bw Bq wn ∧ WP σ w5 Bw (fun j => if j = t then none else A.wt j) ∧ Fr σ (fun l => l = 4 ∨ SQ l) w w5 ∧ HasQ has (A.unwait t r m o).qu) := by
        refine ⟨G5, W5, F5, hasQ_keep hHQ (r := r) (fun r' e m' => by rw [← hqu]; simp [e]) hh ?_⟩
        rw [← hqu]
        have hm' : m = 0 ∨ m = 1 := by omega
        rcases hm' with rfl | rfl
        · left; simpa using hxn
        · right; simpa using hxn
      have z1 : (1 : Int) ≤ (k : Int) := by omega
      have z2 : (k : Int) ≤ (cap : Int) := by omega
      have z3 : ¬ cap = 1 := by omega
      have z4 : (1 : Int) ≤ (cap : Int) := by omega
      clear G4 W4 Q4 F4 Q5 G5 W5 F5 s5 b5 g5 lab HX hsl hqu hfl hxr hkr hkx hxn k0 k5
      go_region_held3 (fun w' => w'.cell? ⟨T, 1, none⟩ = some (.string (md m))) (first | exact k1 | exact i1) (fail)
      go_wp2
      obtain ⟨G5, W5, F5, HQ⟩ := HG5.out
      exact bodyPost_end (results_none rfl _ _ _) rfl ⟨rfl, _, _, G5, W5, HQ5.out, HQ, F5⟩
    · have q2 : ¬ (i : Int) = 0 := by omega
      go_wp2_with (go_at_call 21; refine Hbs.out.mono ?_; rintro e w4 ⟨rfl, q, hw4⟩; obtain ⟨G4, W4, Q4, F4, hg4, k0, k1, k5, hT4⟩ := H4.out w4 q hw4; have HX : Hid (GP σ w4 G Bh Be Bw Bq wn ∧ WP σ w4 Bw (fun j => if j = t then none else A.wt j) ∧ QP σ w4 Bq has bq qv A.qu ∧ Fr σ (fun l => l = 4 ∨ SQ l) w w4) := ⟨G4, W4, Q4, F4⟩; clear hw4 G4 W4 Q4 F4)
      have HDL : Hid (Calls Yba.prog 22 #[.slice (some ⟨g, off, none⟩) k cap, .int .i64 (i : Int), .int .i64 ((i : Int) + 1)] w4.drew fun e w' => e = .returned (.slice (some ⟨g, off, none⟩) (k - 1) cap) ∧ w'.cell? ⟨T, 1, none⟩ = some (.string (md m)) ∧
          ∃ w6, (Instr.mapUpdate 75 (.map (some b2)) (.string (md m)) (.slice (some ⟨g, off, none⟩) (k - 1) cap)).run Yba.prog w' = .ok () w6 ∧ w6.cell? ⟨T, 1, none⟩ = some (.string (md m)) ∧ Hid (StopPost σ w G Bh Be Bw Bq wn bq (A.unwait t r m o) w6)) := by
        obtain ⟨G4, W4, Q4, F4⟩ := HX.out
        have lab := Q4.labs r hr hh
        have hc : ∀ j, j < (A.qu r m).length → w4.drew.cell? ⟨g, off + j, none⟩ = some (.int .i64 ((A.qu r m).getD j 0)) := by
          intro j hj
          refine cell_in (e := 3) (show w4.drew.heap[g]? = _ from hg4) htk j _ ?_
          simp [ints, List.getElem?_eq_getElem hj, List.getD_eq_getElem?_getD]
        have hf : ∀ j, j < k → w4.drew.frozen? ⟨g, off + j, none⟩ = false := fun j _ => frozen_in (show w4.drew.heap[g]? = _ from hg4) _
        have h0 := Yba.slices_Delete_int_cells g off k cap i (i + 1) (A.qu r m) w4.drew (by omega) hnc (by simp only [maxLen] at hcm; omega) (by omega) (by omega) hc hf
        have ei : ((i + 1 : Nat) : Int) = (i : Int) + 1 := by omega
        rw [ei] at h0
        refine h0.mono ?_
        rintro e w5 ⟨rfl, q5, hw5⟩
        have e1 : k - (i + 1 - i) = k - 1 := by omega
        have etk : (A.qu r m).take k = A.qu r m := List.take_of_length_le (by omega)
        rw [etk, Hcut.out] at hw5
        have e2 : i + 1 - i = 1 := by omega
        rw [e2] at hw5
        obtain ⟨fl, hfl⟩ : ∃ fl, (A.qu r m).filter (fun x => decide (x ≠ o)) = fl := ⟨_, rfl⟩
        rw [hfl] at hw5 hcut3
        have hvs : (fl ++ List.replicate 1 (0 : Int)).map (Value.int .i64) = ints fl ++ [.int .i64 0] := by simp [ints]
        rw [hvs] at hw5
        have hlen : (ints fl ++ [Value.int .i64 0]).length = k := by simp [ints_length]; omega
        obtain ⟨cur', hg5, hcs', hcl'⟩ := heap_setCells g 3 (0, 0) (ints fl ++ [.int .i64 0]) off (w4.drew.drewN q5) cur hg4 (by rw [hlen]; omega)
        have g45 := grown_setCells g (ints fl ++ [.int .i64 0]) off (w4.drew.drewN q5)
        rw [← hw5] at hg5 g45
        have hsl : Sl w5 3 (fun g => σ g = 40 + 2 * r + m) (.slice (some ⟨g, off, none⟩) (k - 1) cap) (ints fl) := by
          refine .inr ⟨g, off, cap, cur', by rw [ints_length]; congr 1; omega, hok, hg5, by rw [ints_length]; omega, by rw [hcs']; exact hcs, hcm, ?_⟩
          rw [hcl', List.append_assoc, List.append_assoc, List.drop_append_of_le_length (by simp; omega)]
          have : (cur.toList.take off).drop off = [] := List.drop_eq_nil_of_le (by simp; omega)
          rw [this, List.nil_append]
          exact List.take_left
        have hxn : fl ≠ [] := by intro e; rw [e] at hcut3; simp at hcut3; omega
        have fr1 : Fr σ (fun l => SQ l) w4 w5 := ((Fr.drew σ _ w4).trans (Fr.drewN σ _ w4.drew q5)).trans (Fr.of_grown g45 (by rintro b e; cases e; rw [hok]; exact .inr (.inr ⟨by omega, by omega⟩)))
        have sm : Same σ (fun l => SQ l ∧ l ≠ 40 + 2 * r + m) w4 w5 := ((Same.drew σ _ w4).trans ((Fr.drewN σ (fun _ => False) w4.drew q5).keep (fun _ _ h => h))).trans (Same.of_grown g45 (by rintro b e; cases e; exact fun h => h.2 hok))
        obtain ⟨w6, hup, Q6, g6⟩ := Q4.storeIn hr hm hh sm hxn hsl
        rw [hb2] at hup
        have s6 : Same σ (fun l => l ≠ 20 + r) w5 w6 := Same.of_grown g6 (by rintro b e; cases e; exact fun h => h lab)
        have b5 : w5.heap[T]? = w4.heap[T]? := fr1.same.block T hT4 (by rw [zT]; unfold SQ; omega)
        have b6 : w6.heap[T]? = w5.heap[T]? := s6.block T (by have := fr1.size; omega) (by rw [zT]; omega)
        have a5 : w5.cell? ⟨T, 1, none⟩ = some (.string (md m)) := (World.cell?_of_block b5).trans k1
        have hqu : (fun r' m' => if r' = r ∧ m' = m then fl else A.qu r' m') = (A.unwait t r m o).qu := by
          simp only [St.unwait, hfl]
        rw [hqu] at Q6
        refine ⟨by rw [e1], a5, w6, hup, (World.cell?_of_block b6).trans a5, has, _, (G4.kept (fr1.keep (by rintro l rfl; unfold SQ; omega))).kept (s6.mono (by intro l h; omega)), (W4.kept (fr1.keep (by rintro l rfl; unfold SQ; omega))).kept (s6.mono (by intro l h; omega)), Q6, ?_,
          (F4.trans (fr1.mono fun l h => .inr h)).trans (Fr.of_grown g6 (by rintro b e; cases e; rw [lab]; exact .inr (.inr (.inl ⟨by omega, by omega⟩))))⟩
        refine hasQ_keep hHQ (r := r) (fun r' e m' => by rw [← hqu]; simp [e]) hh ?_
        rw [← hqu]
        have hm' : m = 0 ∨ m = 1 := by omega
        rcases hm' with rfl | rfl
        · left; simpa using hxn
        · right; simpa using hxn
      have z1 : IntKind.i64.wrap ((i : Int) + 1) = (i : Int) + 1 := by
        have := hI.quLen r m
        rw [IntKind.wrap_i64]
        omega
      clear HX k0 k5 Hcut hcut1 hcut3 htk hg4
      go_region_held3 (fun w' => w'.cell? ⟨T, 1, none⟩ = some (.string (md m))) (first | exact k1 | assumption) ((go_at_call 22; refine HDL.out.mono ?_; rintro e w5 ⟨rfl, a5, w6, hup, a6, HZ⟩))
      go_wp2
      exact bodyPost_end (results_none rfl _ _ _) rfl ⟨rfl, HZ.out⟩

theorem stop_none {σ : Nat → Nat} {w : World} {G Bh Be Bw Bq wn : Nat} {A : St} {has : Nat → Bool} {bq : Nat → Nat} {qv : Nat → Nat → Value} (hG : GP σ w G Bh Be Bw Bq wn) (hW : WP σ w Bw A.wt) (hQ : QP σ w Bq has bq qv A.qu)
    {t : Nat} (ht : t < 3) (ho : A.wt t = none) (hHQ : HasQ has A.qu) :
    Calls Yba.prog 18 #[.pointer (some ⟨G, 0, none⟩), .string (tx t)] w fun e w' => e = .returned (.tuple #[]) ∧ StopPost σ w G Bh Be Bw Bq wn bq A w' := by
  have hl := hW.look ht
  rw [ho] at hl
  simp only [Option.map_none, Option.getD_none, Option.isSome_none, zreq] at hl
  have cw := hG.wt.1
  have HX : Hid (∀ o, StopPost σ w G Bh Be Bw Bq wn bq A (w.alloc o)) := fun o => ⟨has, qv, hG.kept (Same.alloc _ _ _ _), hW.kept (Same.alloc _ _ _ _), hQ.kept (Same.alloc _ _ _ _), hHQ, Fr.alloc _ _ _ _⟩
  clear hG hW hQ
  go_enter Yba.func18, Yba.ntmps18
  go_wp2
  exact bodyPost_ret (results_none rfl _ _ _) rfl ⟨rfl, HX.out _⟩

/-- (*waitGraph).stopWaiting. -/
theorem stop_in {σ : Nat → Nat} {w : World} {G Bh Be Bw Bq wn n : Nat} {A : St} {has : Nat → Bool} {bq : Nat → Nat} {qv : Nat → Nat → Value} (hG : GP σ w G Bh Be Bw Bq wn) (hW : WP σ w Bw A.wt) (hQ : QP σ w Bq has bq qv A.qu)
    (hz : ∀ b, w.heap.size ≤ b → σ b = 0) (hI : Inv n A) (hn : n ≤ 1024) {t : Nat} (ht : t < 3) (hHQ : HasQ has A.qu) :
    Calls Yba.prog 18 #[.pointer (some ⟨G, 0, none⟩), .string (tx t)] w fun e w' => e = .returned (.tuple #[]) ∧ StopPost σ w G Bh Be Bw Bq wn bq (A.stop t) w' := by
  cases ho : A.wt t with
  | none =>
    have e : A.stop t = A := by unfold St.stop; rw [ho]
    rw [e]
    exact stop_none hG hW hQ ht ho hHQ
  | some x =>
    obtain ⟨r, m, o⟩ := x
    have e : A.stop t = A.unwait t r m o := by unfold St.stop; rw [ho]
    rw [e]
    obtain ⟨hr, hm, hmem⟩ := hI.wt t r m o ho
    have hx : A.qu r m ≠ [] := fun e => by rw [e] at hmem; cases hmem
    have hh : has r = true := (hHQ r hr).2 (by
      have hm' : m = 0 ∨ m = 1 := by omega
      rcases hm' with rfl | rfl
      · exact .inl hx
      · exact .inr hx)
    exact stop_some hG hW hQ hz hI hn ht ho hr hm hh hx hmem hHQ

end Go.Proofs.Ybulkatsw.Md
