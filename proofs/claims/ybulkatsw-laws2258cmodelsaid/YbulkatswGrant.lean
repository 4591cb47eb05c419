import Derived.Test.YbulkatswGraph
import Derived.WalkSpells
import Derived.WalkLawsBesides
import Derived.Deep.RegionHeld3
import Derived.Deep.MidRow
import Derived.Deep.CutRange
import Derived.Deep.CutBlock
namespace Go.Proofs.Ybulkatsw.Md
open Go Go.RowKit Mf Rw
set_option linter.unusedVariables false

set_option maxRecDepth 100000 in
set_option maxHeartbeats 4000000 in
theorem ap_grant {σ : Nat → Nat} {w : World} {G n : Nat} {A : St} (hGr : Gr σ w G A)
    (hz : ∀ b, w.heap.size ≤ b → σ b = 0) (hI : Inv n A) (hn : n < 1024) {t r m : Nat} (ht : t < 3) (hr : r < 3) (hm : m < 2) :
    Calls Yba.prog 10 #[.pointer (some ⟨G, 0, none⟩), .agg (evCells 1 t r m)] w fun e w' => e = .returned (.tuple #[]) ∧ ApPost σ w G ((A.stop t).grant t r m) w' := by
  obtain ⟨Bh, Be, Bw, Bq, hv, has, bh, hasq, bq, qv, hG, hW, hE, hH, hQ, hHH, hHQ⟩ := hGr
  obtain ⟨E, hE0⟩ : ∃ E, w.heap.size = E := ⟨_, rfl⟩
  have zE : σ E = 0 := hz E (by omega)
  obtain ⟨w0, hw0⟩ : ∃ w0, w.alloc (.cells (evCells 1 t r m) 58) = w0 := ⟨_, rfl⟩
  have s0 : ∀ S, Same σ S w w0 := fun S => by rw [← hw0]; exact Same.alloc _ _ _ _
  have c0 := Cell.new w (evCells 1 t r m) 58 0 (.int .i64 1) rfl
  have c1 := Cell.new w (evCells 1 t r m) 58 1 (.string (tx t)) rfl
  have c2 := Cell.new w (evCells 1 t r m) 58 2 (.string (res r)) rfl
  have c3 := Cell.new w (evCells 1 t r m) 58 3 (.string (md m)) rfl
  rw [hw0, hE0] at c0 c1 c2 c3
  have f0 : Fr σ LG w w0 := by rw [← hw0]; exact Fr.alloc _ _ _ _
  have hsz0 : w0.heap.size = E + 1 := by rw [← hw0, ← hE0]; simp
  obtain ⟨B, hB⟩ : ∃ B, A.stop t = B := ⟨_, rfl⟩
  have hIB : Inv n B := by rw [← hB]; exact hI.stop t
  rw [hB]
  have HS : Hid (Calls Yba.prog 18 #[.pointer (some ⟨G, 0, none⟩), .string (tx t)] w0 fun e w' => e = .returned (.tuple #[]) ∧ w'.cell? ⟨E, 1, none⟩ = some (.string (tx t)) ∧ w'.cell? ⟨E, 2, none⟩ = some (.string (res r)) ∧ w'.cell? ⟨E, 3, none⟩ = some (.string (md m)) ∧
      Hid (∃ hasq qv, GP σ w' G Bh Be Bw Bq B.waits ∧ WP σ w' Bw B.wt ∧ EP σ w' Be hv B.held ∧ HP σ w' Bh has bh B.hold ∧ QP σ w' Bq hasq bq qv B.qu ∧ HasH has B.hold ∧ HasQ hasq B.qu ∧ Fr σ LG w w')) := by
    refine (stop_in (hG.kept (s0 _)) (hW.kept (s0 _)) (hQ.kept (s0 _)) (fun b hb => hz b (by omega)) hI (by omega) ht hHQ).mono ?_
    rintro e w' ⟨rfl, hasq', qv', k1, k2, k3, k4, k5⟩
    rw [hB] at k2 k3 k4
    refine ⟨rfl, (c1.keep k5 (by rw [zE]; unfold SQ; omega)).1, (c2.keep k5 (by rw [zE]; unfold SQ; omega)).1, (c3.keep k5 (by rw [zE]; unfold SQ; omega)).1, hasq', qv', ?_, k2, ?_, ?_, k3, ?_, k4, f0.trans (k5.mono (by unfold SQ LG; omega))⟩
    · rw [← hB, stop_waits]; exact k1
    · rw [← hB, stop_held]; exact (hE.kept (s0 _)).kept (k5.keep (by unfold SE SQ; omega))
    · rw [← hB, stop_hold]; exact (hH.kept (s0 _)).kept (k5.keep (by unfold SH SQ; omega))
    · rw [← hB, stop_hold]; exact hHH
  have e0 := c0.1
  have e1 := c1.1
  clear hG hW hE hH hQ s0 c0 c1 c2 c3 f0 hHH hHQ
  have hn1 : ∀ w x, (binOp .eql 72 (.map x) (.map none)).run Yba.prog w = .ok (.bool x.isNone) w := fun w x => run_eql_map_nil (P := Yba.prog) w 72 9 53 x Yba.underlying72
  simp only [evCells] at hw0 ⊢
  go_enter Yba.func10, Yba.ntmps10
  go_wp2_with (go_at_call 18; refine HS.out.mono ?_; rintro e w5 ⟨rfl, y1, y2, y3, HX⟩)
  clear HS hw0 e0 e1
  obtain ⟨hasq, qv, G5, W5, E5, H5, Q5, hHH, hHQ, f5⟩ := HX.out
  have sz5 : E + 1 ≤ w5.heap.size := World.block_lt_of_cell? w5 _ y1
  have hlk := (H5.kept (Same.drew σ _ w5)).look hr
  have d1 := G5.h.1
  by_cases hh : has r = true
  · rw [if_pos hh] at hlk
    obtain ⟨bm, hbm⟩ : ∃ bm, bh r = bm := ⟨_, rfl⟩
    rw [hbm] at hlk
    have hnil : ∀ w, (binOp .eql 72 (.map (some bm)) (.map none)).run Yba.prog w = .ok (.bool false) w := fun w => hn1 w (some bm)
    have HX5 := Hid.mk (And.intro G5 (And.intro W5 (And.intro E5 (And.intro H5 (And.intro Q5 f5)))))
    clear G5 W5 E5 H5 Q5 f5 HX hn1
    go_region_held3 (fun w' => w'.cell? ⟨G, 1, none⟩ = some (.map (some Bh)) ∧ w'.cell? ⟨E, 2, none⟩ = some (.string (res r)) ∧ (Instr.lookup 61 (.map (some Bh)) (.string (res r)) false).run Yba.prog w' = .ok (.map (some bm)) w')
      (exact ⟨d1, y2, hlk⟩) (fail)
    go_wp2
    obtain ⟨G5, W5, E5, H5, Q5, f5⟩ := HX5.out
    obtain ⟨w6, hw6⟩ : ∃ w6, w5.drew = w6 := ⟨_, rfl⟩
    have s6 : ∀ S, Same σ S w5 w6 := fun S => by rw [← hw6]; exact Same.drew _ _ _
    have G6 := G5.kept (s6 _)
    have W6 := W5.kept (s6 _)
    have E6 := E5.kept (s6 _)
    have H6 := H5.kept (s6 _)
    have Q6 := Q5.kept (s6 _)
    have f6 : Fr σ LG w w6 := f5.trans (by rw [← hw6]; exact Fr.drew _ _ _)
    have x1 : w6.cell? ⟨E, 1, none⟩ = some (.string (tx t)) := by rw [← hw6]; exact y1
    have x2 : w6.cell? ⟨E, 2, none⟩ = some (.string (res r)) := by rw [← hw6]; exact y2
    have x3 : w6.cell? ⟨E, 3, none⟩ = some (.string (md m)) := by rw [← hw6]; exact y3
    have sz6 : E + 1 ≤ w6.heap.size := by rw [← hw6]; exact sz5
    rw [hw6]
    have hh6 := hh
    have hz6 : ∀ b, w6.heap.size ≤ b → σ b = 0 := fun b hb => hz b (by omega)
    have zE6 := zE
    clear G5 W5 E5 H5 Q5 f5 s6 HX5 hw6 hnil y1 y2 y3 d1 hlk
    -- region 15
    obtain ⟨w7, hup7, H7, g7⟩ := (H6.kept (Same.drew σ _ w6)).storeIn (m := m) hr ht hh6
    have hl6 := (H6.kept (Same.drew σ _ w6)).look hr
    rw [if_pos hh6, hbm] at hl6
    rw [hbm] at hup7
    have lr := H6.labs r hr hh6
    have s7 : ∀ S : Nat → Prop, ¬ S (10 + r) → Same σ S w6 w7 := fun S h => (Same.drew _ _ _).trans (Same.of_grown g7 (by rintro b e; cases e; rw [lr]; exact h))
    have G7 := G6.kept (s7 _ (by omega))
    have W7 := W6.kept (s7 _ (by omega))
    have E7 := E6.kept (s7 _ (by unfold SE; omega))
    have Q7 := Q6.kept (s7 _ (by unfold SQ; omega))
    have f7 : Fr σ LG w w7 := (f6.trans (Fr.drew _ _ _)).cons (Fr.of_grown (σ := σ) (L := (· = 10 + r)) g7 (by rintro b e; cases e; exact lr)) (fun b hb => rfl) (by unfold LG; omega)
    have k7 : ∀ {o v}, w6.cell? ⟨E, o, none⟩ = some v → w7.cell? ⟨E, o, none⟩ = some v := fun {o v} h => (World.cell?_of_block ((s7 (· = 0) (by omega)).block E (by omega) zE6)).trans h
    have p1 := k7 x1
    have p2 := k7 x2
    have p3 := k7 x3
    have sz7 : E + 1 ≤ w7.heap.size := World.block_lt_of_cell? w7 _ p1
    have hz7 : ∀ b, w7.heap.size ≤ b → σ b = 0 := fun b hb => hz6 b (Nat.le_trans (s7 (fun _ => False) (by simp)).size hb)
    have d61 := G6.h.1
    have d71 := G7.h.1
    -- region 16
    obtain ⟨v', w8, w9, σ', happ, hup, b1, b2, E9, f8, f9⟩ := held_step E7 ht hz7 (by have := hIB.heldLen t; omega) r 55
    have hlm := (E7.kept (Same.drew σ _ w7)).look ht
    have hlm2 := (E7.kept ((Same.alloc σ _ w7 (.cells #[.string (res r)] 9)).trans (Same.drew σ _ _))).look ht
    obtain ⟨vq, hvq⟩ : ∃ vq, hv t = vq := ⟨_, rfl⟩
    obtain ⟨M7, hM7⟩ : ∃ M7, w7.heap.size = M7 := ⟨_, rfl⟩
    rw [hvq] at hlm hlm2
    rw [hvq, hM7] at happ
    have z8 : ∀ {o v}, w7.cell? ⟨E, o, none⟩ = some v → w8.cell? ⟨E, o, none⟩ = some v := fun {o v} h => (World.cell?_of_block (f8.same.block E (by omega) (by rw [b1 _ (by omega), zE6]; omega))).trans h
    have z9 : ∀ {o v}, w7.cell? ⟨E, o, none⟩ = some v → w9.cell? ⟨E, o, none⟩ = some v := fun {o v} h => (World.cell?_of_block (f9.same.block E (by omega) (by rw [b1 _ (by omega), zE6]; omega))).trans h
    have q1 := z8 p1
    have q2 := z8 p2
    have r1 := z9 p1
    have r2 := z9 p2
    have G8 := (G7.sig b1).kept (f8.keep (by rintro l rfl; omega))
    have G9 := (G7.sig b1).kept (f9.keep (by rintro l rfl; omega))
    have d72 := G7.e.1
    have d82 := G8.e.1
    have d92 := G9.e.1
    have nn := World.new_ne w7 _ p1
    have nn2 := World.new_ne w7 _ d72
    have HZ : Hid (ApPost σ w G (B.grant t r m) w9) := by
      have hq2 : HasH has (fun r' t' => if r' = r ∧ t' = t then m + 1 else B.hold r' t') := by
        refine hasH_keep hHH (r := r) (fun r' e m' => by simp [e]) hh ?_
        have ht' : t = 0 ∨ t = 1 ∨ t = 2 := by omega
        rcases ht' with rfl | rfl | rfl <;> simp
      have ag : ∀ b, b < w.heap.size → σ' b = σ b := fun b hb => (b1 b (by omega)).trans (rfl)
      exact ⟨σ', ag, b2, ⟨Bh, Be, Bw, Bq, _, _, _, hasq, bq, qv, G9, (W7.sig b1).kept (f9.keep (by rintro l rfl; omega)), E9, (H7.sig b1).kept (f9.keep (by unfold SH; omega)), (Q7.sig b1).kept (f9.keep (by unfold SQ; omega)), hq2, hHQ⟩,
        f7.cons f9 ag (by unfold LG; omega)⟩
    clear G6 W6 E6 H6 Q6 f6 G7 W7 E7 H7 Q7 f7 G8 G9 E9 f8 f9 s7 k7 z8 z9 g7 lr hIB hHH hHQ
    go_region_held3 (fun w' => w'.cell? ⟨G, 1, none⟩ = some (.map (some Bh)) ∧ w'.cell? ⟨E, 1, none⟩ = some (.string (tx t)) ∧ w'.cell? ⟨E, 2, none⟩ = some (.string (res r)) ∧ w'.cell? ⟨E, 3, none⟩ = some (.string (md m)))
      (first | exact ⟨d61, x1, x2, x3⟩ | exact ⟨d71, p1, p2, p3⟩) (fail)
    clear d61 x1 x2 x3 d71 p3 hl6 hup7
    go_wp2
    go_region_held3 (fun w' => w'.cell? ⟨G, 2, none⟩ = some (.map (some Be)) ∧ w'.cell? ⟨E, 1, none⟩ = some (.string (tx t)) ∧ w'.cell? ⟨E, 2, none⟩ = some (.string (res r)))
      (first | exact ⟨d72, p1, p2⟩ | exact ⟨d82, q1, q2⟩ | exact ⟨d92, r1, r2⟩ | go_keep) ((refine step_append_run (by rfl) _ _ _ (by rfl) _ _ (by rfl) (by rfl) happ ?_))
    all_goals go_wp2
    all_goals exact bodyPost_end (results_none rfl _ _ _) rfl ⟨rfl, HZ.out⟩
  · have hh' : has r = false := by simpa using hh
    rw [if_neg hh] at hlk
    have hnil : ∀ w, (binOp .eql 72 (.map none) (.map none)).run Yba.prog w = .ok (.bool true) w := fun w => hn1 w none
    have HX5 := Hid.mk (And.intro G5 (And.intro W5 (And.intro E5 (And.intro H5 (And.intro Q5 f5)))))
    clear G5 W5 E5 H5 Q5 f5 HX hn1
    go_region_held3 (fun w' => w'.cell? ⟨G, 1, none⟩ = some (.map (some Bh)) ∧ w'.cell? ⟨E, 2, none⟩ = some (.string (res r)) ∧ (Instr.lookup 61 (.map (some Bh)) (.string (res r)) false).run Yba.prog w' = .ok (.map none) w')
      (exact ⟨d1, y2, hlk⟩) (fail)
    go_wp2
    obtain ⟨G5, W5, E5, H5, Q5, f5⟩ := HX5.out
    obtain ⟨wb, hwb⟩ : ∃ wb, w5.drew = wb := ⟨_, rfl⟩
    rw [hwb]
    have sb : ∀ S, Same σ S w5 wb := fun S => by rw [← hwb]; exact Same.drew _ _ _
    have Gb := G5.kept (sb _)
    have Wb := W5.kept (sb _)
    have Eb := E5.kept (sb _)
    have Hb := H5.kept (sb _)
    have Qb := Q5.kept (sb _)
    have fb : Fr σ LG w wb := f5.trans (by rw [← hwb]; exact Fr.drew _ _ _)
    have u1 : wb.cell? ⟨E, 1, none⟩ = some (.string (tx t)) := by rw [← hwb]; exact y1
    have u2 : wb.cell? ⟨E, 2, none⟩ = some (.string (res r)) := by rw [← hwb]; exact y2
    have u3 : wb.cell? ⟨E, 3, none⟩ = some (.string (md m)) := by rw [← hwb]; exact y3
    have szb : E + 1 ≤ wb.heap.size := by rw [← hwb]; exact sz5
    clear G5 W5 E5 H5 Q5 f5 sb HX5 hwb hnil y1 y2 y3 d1 hlk
    obtain ⟨N5, hN5⟩ : ∃ N5, wb.heap.size = N5 := ⟨_, rfl⟩
    have hmm : (Instr.makeMap 72 none).run Yba.prog wb.drew = .ok (.map (some N5)) (wb.alloc (.map #[] 0)).drew := by rw [← hN5]; exact run_makeMap 72 wb.drew
    obtain ⟨wa, hwa1⟩ : ∃ wa, (wb.alloc (.map #[] 0)).drew = wa := ⟨_, rfl⟩
    rw [hwa1] at hmm
    obtain ⟨σ1, hσ1⟩ : ∃ σ1 : Nat → Nat, σ1 = fun b => if b = N5 then 10 + r else σ b := ⟨_, rfl⟩
    have ag1 : ∀ b, b < wb.heap.size → σ1 b = σ b := fun b hb => by rw [hσ1]; exact if_neg (by omega)
    have sa : ∀ S, Same σ1 S wb wa := fun S => by rw [← hwa1]; exact (Same.alloc _ _ _ _).trans (Same.drew _ _ _)
    have sza : wa.heap.size = N5 + 1 := by rw [← hwa1]; simp [hN5]
    have Ga := (Gb.sig ag1).kept (sa _)
    have Wa := (Wb.sig ag1).kept (sa _)
    have Ea := (Eb.sig ag1).kept (sa _)
    have Ha := (Hb.sig ag1).kept (sa _)
    have Qa := (Qb.sig ag1).kept (sa _)
    have fa : Fr σ LG w wa := fb.trans (by rw [← hwa1]; exact (Fr.alloc _ _ _ _).trans (Fr.drew _ _ _))
    have hma : MapF wa N5 tx 3 (fun _ => none) := by rw [← hwa1, ← hN5]; exact (MapF.made wb tx 3).of_block rfl
    have lN : σ1 N5 = 10 + r := by rw [hσ1]; exact if_pos rfl
    obtain ⟨w6, hup6, H6, g6⟩ := Ha.store hr hh' lN hma
    obtain ⟨has1, hhas1⟩ : ∃ f : Nat → Bool, (fun j => if j = r then true else has j) = f := ⟨_, rfl⟩
    obtain ⟨bh1, hbh1⟩ : ∃ f : Nat → Nat, (fun j => if j = r then N5 else bh j) = f := ⟨_, rfl⟩
    rw [hhas1, hbh1] at H6
    have hh6 : has1 r = true := by rw [← hhas1]; simp
    have hbm : bh1 r = N5 := by rw [← hbh1]; simp
    have Hhas1 := Hid.mk hhas1
    clear hhas1 hbh1
    have lQ := Ha.lab
    have s6 : ∀ S : Nat → Prop, ¬ S 2 → Same σ1 S wa w6 := fun S h => Same.of_grown g6 (by rintro b e; cases e; rw [lQ]; exact h)
    have G6 := Ga.kept (s6 _ (by omega))
    have W6 := Wa.kept (s6 _ (by omega))
    have E6 := Ea.kept (s6 _ (by unfold SE; omega))
    have Q6 := Qa.kept (s6 _ (by unfold SQ; omega))
    have f6 : Fr σ LG w w6 := fa.cons (Fr.of_grown (σ := σ1) (L := (· = 2)) g6 (by rintro b e; cases e; exact lQ)) (fun b hb => ag1 b (by omega)) (by unfold LG; omega)
    have hE1 : E < wb.heap.size := by omega
    have kp : ∀ {o v}, wb.cell? ⟨E, o, none⟩ = some v → wa.cell? ⟨E, o, none⟩ = some v := fun {o v} h => (World.cell?_of_block ((sa (fun _ => True)).block E hE1 trivial)).trans h
    have kp6 : ∀ {o v}, wa.cell? ⟨E, o, none⟩ = some v → w6.cell? ⟨E, o, none⟩ = some v := fun {o v} h => (World.cell?_of_block ((s6 (· = 0) (by omega)).block E (by omega) (by rw [ag1 _ hE1]; exact zE))).trans h
    have a2 := kp u2
    have x1 := kp6 (kp u1)
    have x2 := kp6 a2
    have x3 := kp6 (kp u3)
    have gb1 := Gb.h.1
    have ga1 := Ga.h.1
    have gc1 := G6.h.1
    have HX6 := Hid.mk (And.intro G6 (And.intro W6 (And.intro E6 (And.intro H6 (And.intro Q6 f6)))))
    have sz6 : N5 + 1 ≤ w6.heap.size := by rw [← sza]; exact (s6 (fun _ => False) (by simp)).size
    have Hσ1 : Hid (σ1 = fun b => if b = N5 then 10 + r else σ b) := hσ1
    have hz6 : ∀ b, w6.heap.size ≤ b → σ1 b = 0 := fun b hb => by rw [Hσ1.out]; dsimp only; rw [if_neg (by omega)]; exact hz b (by omega)
    have zE6 : σ1 E = 0 := (ag1 _ hE1).trans zE
    clear Gb Wb Eb Hb Qb fb Ga Wa Ea Ha Qa fa G6 W6 E6 H6 Q6 f6 sa s6 kp kp6 hma g6 hσ1 u1 u3 lQ lN
    rw [← hwa1] at hmm hup6 a2 ga1
    have nn0 := World.new_ne wb _ u2
    clear hwa1
    go_region_held3 (fun w' => w'.cell? ⟨G, 1, none⟩ = some (.map (some Bh)) ∧ w'.cell? ⟨E, 2, none⟩ = some (.string (res r)))
      (first | exact ⟨gb1, u2⟩ | exact ⟨ga1, a2⟩ | exact ⟨gc1, x2⟩) (fail)
    go_wp2
    obtain ⟨G6, W6, E6, H6, Q6, f6⟩ := HX6.out
    clear hmm hup6 a2 gb1 ga1 gc1 u2 HX6
    -- region 15
    obtain ⟨w7, hup7, H7, g7⟩ := (H6.kept (Same.drew σ1 _ w6)).storeIn (m := m) hr ht hh6
    have hl6 := (H6.kept (Same.drew σ1 _ w6)).look hr
    rw [if_pos hh6, hbm] at hl6
    rw [hbm] at hup7
    have lr := H6.labs r hr hh6
    have s7 : ∀ S : Nat → Prop, ¬ S (10 + r) → Same σ1 S w6 w7 := fun S h => (Same.drew _ _ _).trans (Same.of_grown g7 (by rintro b e; cases e; rw [lr]; exact h))
    have G7 := G6.kept (s7 _ (by omega))
    have W7 := W6.kept (s7 _ (by omega))
    have E7 := E6.kept (s7 _ (by unfold SE; omega))
    have Q7 := Q6.kept (s7 _ (by unfold SQ; omega))
    have f7 : Fr σ LG w w7 := (f6.trans (Fr.drew _ _ _)).cons (Fr.of_grown (σ := σ1) (L := (· = 10 + r)) g7 (by rintro b e; cases e; exact lr)) (fun b hb => ag1 b (by omega)) (by unfold LG; omega)
    have k7 : ∀ {o v}, w6.cell? ⟨E, o, none⟩ = some v → w7.cell? ⟨E, o, none⟩ = some v := fun {o v} h => (World.cell?_of_block ((s7 (· = 0) (by omega)).block E (by omega) zE6)).trans h
    have p1 := k7 x1
    have p2 := k7 x2
    have p3 := k7 x3
    have sz7 : E + 1 ≤ w7.heap.size := World.block_lt_of_cell? w7 _ p1
    have hz7 : ∀ b, w7.heap.size ≤ b → σ1 b = 0 := fun b hb => hz6 b (Nat.le_trans (s7 (fun _ => False) (by simp)).size hb)
    have d61 := G6.h.1
    have d71 := G7.h.1
    -- region 16
    obtain ⟨v', w8, w9, σ', happ, hup, b1, b2, E9, f8, f9⟩ := held_step E7 ht hz7 (by have := hIB.heldLen t; omega) r 55
    have hlm := (E7.kept (Same.drew σ1 _ w7)).look ht
    have hlm2 := (E7.kept ((Same.alloc σ1 _ w7 (.cells #[.string (res r)] 9)).trans (Same.drew σ1 _ _))).look ht
    obtain ⟨vq, hvq⟩ : ∃ vq, hv t = vq := ⟨_, rfl⟩
    obtain ⟨M7, hM7⟩ : ∃ M7, w7.heap.size = M7 := ⟨_, rfl⟩
    rw [hvq] at hlm hlm2
    rw [hvq, hM7] at happ
    have z8 : ∀ {o v}, w7.cell? ⟨E, o, none⟩ = some v → w8.cell? ⟨E, o, none⟩ = some v := fun {o v} h => (World.cell?_of_block (f8.same.block E (by omega) (by rw [b1 _ (by omega), zE6]; omega))).trans h
    have z9 : ∀ {o v}, w7.cell? ⟨E, o, none⟩ = some v → w9.cell? ⟨E, o, none⟩ = some v := fun {o v} h => (World.cell?_of_block (f9.same.block E (by omega) (by rw [b1 _ (by omega), zE6]; omega))).trans h
    have q1 := z8 p1
    have q2 := z8 p2
    have r1 := z9 p1
    have r2 := z9 p2
    have G8 := (G7.sig b1).kept (f8.keep (by rintro l rfl; omega))
    have G9 := (G7.sig b1).kept (f9.keep (by rintro l rfl; omega))
    have d72 := G7.e.1
    have d82 := G8.e.1
    have d92 := G9.e.1
    have nn := World.new_ne w7 _ p1
    have nn2 := World.new_ne w7 _ d72
    have HZ : Hid (ApPost σ w G (B.grant t r m) w9) := by
      have hq2 : HasH has1 (fun r' t' => if r' = r ∧ t' = t then m + 1 else B.hold r' t') := by
        rw [← Hhas1.out]
        refine hasH_new hHH (r := r) (fun r' e m' => by simp [e]) ?_
        have ht' : t = 0 ∨ t = 1 ∨ t = 2 := by omega
        rcases ht' with rfl | rfl | rfl <;> simp
      have ag : ∀ b, b < w.heap.size → σ' b = σ b := fun b hb => (b1 b (by omega)).trans (ag1 b (by omega))
      exact ⟨σ', ag, b2, ⟨Bh, Be, Bw, Bq, _, _, _, hasq, bq, qv, G9, (W7.sig b1).kept (f9.keep (by rintro l rfl; omega)), E9, (H7.sig b1).kept (f9.keep (by unfold SH; omega)), (Q7.sig b1).kept (f9.keep (by unfold SQ; omega)), hq2, hHQ⟩,
        f7.cons f9 ag (by unfold LG; omega)⟩
    clear G6 W6 E6 H6 Q6 f6 G7 W7 E7 H7 Q7 f7 G8 G9 E9 f8 f9 s7 k7 z8 z9 g7 lr hIB hHH hHQ
    go_region_held3 (fun w' => w'.cell? ⟨G, 1, none⟩ = some (.map (some Bh)) ∧ w'.cell? ⟨E, 1, none⟩ = some (.string (tx t)) ∧ w'.cell? ⟨E, 2, none⟩ = some (.string (res r)) ∧ w'.cell? ⟨E, 3, none⟩ = some (.string (md m)))
      (first | exact ⟨d61, x1, x2, x3⟩ | exact ⟨d71, p1, p2, p3⟩) (fail)
    clear d61 x1 x2 x3 d71 p3 hl6 hup7
    go_wp2
    go_region_held3 (fun w' => w'.cell? ⟨G, 2, none⟩ = some (.map (some Be)) ∧ w'.cell? ⟨E, 1, none⟩ = some (.string (tx t)) ∧ w'.cell? ⟨E, 2, none⟩ = some (.string (res r)))
      (first | exact ⟨d72, p1, p2⟩ | exact ⟨d82, q1, q2⟩ | exact ⟨d92, r1, r2⟩ | go_keep) ((refine step_append_run (by rfl) _ _ _ (by rfl) _ _ (by rfl) (by rfl) happ ?_))
    all_goals go_wp2
    all_goals exact bodyPost_end (results_none rfl _ _ _) rfl ⟨rfl, HZ.out⟩

end Go.Proofs.Ybulkatsw.Md
