import Derived.Test.YbulkatswGraph
import Derived.WalkSpells
import Derived.WalkLawsBesides
import Derived.Deep.RegionHeld3
import Derived.Deep.MidRow
import Derived.Deep.CutRange
import Derived.Deep.CutBlock
namespace Go.Proofs.Ybulkatsw.Md
open Go Go.RowKit Mf Rw
set_option linter.unusedVariables false

set_option maxRecDepth 100000 in
set_option maxHeartbeats 4000000 in
theorem ap_wait {σ : Nat → Nat} {w : World} {G n : Nat} {A : St} (hGr : Gr σ w G A)
    (hz : ∀ b, w.heap.size ≤ b → σ b = 0) (hI : Inv n A) (hn : n < 1024) {t r m : Nat} (ht : t < 3) (hr : r < 3) (hm : m < 2) :
    Calls Yba.prog 10 #[.pointer (some ⟨G, 0, none⟩), .agg (evCells 2 t r m)] w fun e w' => e = .returned (.tuple #[]) ∧ ApPost σ w G (A.wait t r m) w' := by
  obtain ⟨Bh, Be, Bw, Bq, hv, has, bh, hasq, bq, qv, hG, hW, hE, hH, hQ, hHH, hHQ⟩ := hGr
  obtain ⟨E, hE0⟩ : ∃ E, w.heap.size = E := ⟨_, rfl⟩
  have zE : σ E = 0 := hz E (by omega)
  obtain ⟨w0, hw0⟩ : ∃ w0, w.alloc (.cells (evCells 2 t r m) 58) = w0 := ⟨_, rfl⟩
  have s0 : ∀ S, Same σ S w w0 := fun S => by rw [← hw0]; exact Same.alloc _ _ _ _
  have c0 := Cell.new w (evCells 2 t r m) 58 0 (.int .i64 2) rfl
  have c1 := Cell.new w (evCells 2 t r m) 58 1 (.string (tx t)) rfl
  have c2 := Cell.new w (evCells 2 t r m) 58 2 (.string (res r)) rfl
  have c3 := Cell.new w (evCells 2 t r m) 58 3 (.string (md m)) rfl
  rw [hw0, hE0] at c0 c1 c2 c3
  have G0 := hG.kept (s0 _)
  have W0 := hW.kept (s0 _)
  have E0 := hE.kept (s0 _)
  have H0 := hH.kept (s0 _)
  have Q0 := hQ.kept (s0 _)
  have f0 : Fr σ LG w w0 := by rw [← hw0]; exact Fr.alloc _ _ _ _
  have hsz0 : w0.heap.size = E + 1 := by rw [← hw0, ← hE0]; simp
  clear hG hW hE hH hQ s0
  have e0 := c0.1
  have e2 := c2.1
  have e3 := c3.1
  have d4 := G0.n.1
  have n1 := World.new_ne w0 _ e2
  have n2 := World.new_ne w0 _ e3
  have n3 := World.new_ne w0 _ d4
  have HX := Hid.mk (And.intro G0 (And.intro W0 (And.intro E0 (And.intro H0 (And.intro Q0 f0)))))
  have Hc := Hid.mk (And.intro c0 (And.intro c1 (And.intro c2 c3)))
  clear G0 W0 E0 H0 Q0 f0 c0 c1 c2 c3
  simp only [evCells] at hw0 ⊢
  go_enter Yba.func10, Yba.ntmps10
  go_wp2
  go_region_held3 (fun w' => w'.cell? ⟨E, 2, none⟩ = some (.string (res r)) ∧ w'.cell? ⟨E, 3, none⟩ = some (.string (md m)) ∧ w'.cell? ⟨G, 4, none⟩ = some (.int .i64 (A.waits : Int))) (go_keep) (fail)
  clear n1 n2 n3 e2 e3 d4
  obtain ⟨w3, hw3⟩ : ∃ w3, (w0.alloc (.cells #[.string (res r), .string (md m), .int .i64 (A.waits : Int)] 68)).drew = w3 := ⟨_, rfl⟩
  rw [hw3]
  obtain ⟨G0, W0, E0, H0, Q0, f0⟩ := HX.out
  obtain ⟨c0, c1, c2, c3⟩ := Hc.out
  have sm3 : ∀ S, Same σ S w0 w3 := fun S => by rw [← hw3]; exact (Same.alloc _ _ _ _).trans (Same.drew _ _ _)
  have f3 : Fr σ LG w w3 := f0.trans (by rw [← hw3]; exact (Fr.alloc _ _ _ _).trans (Fr.drew _ _ _))
  have zQ : σ (E + 1) = 0 := hz _ (by omega)
  have kE : Cell w3 E 1 (.string (tx t)) := c1.of_block ((sm3 (fun _ => True)).block E c1.lt trivial)
  have q0 := Cell.new w0 #[.string (res r), .string (md m), .int .i64 (A.waits : Int)] 68 0 (.string (res r)) rfl
  have q1 := Cell.new w0 #[.string (res r), .string (md m), .int .i64 (A.waits : Int)] 68 1 (.string (md m)) rfl
  have q2 := Cell.new w0 #[.string (res r), .string (md m), .int .i64 (A.waits : Int)] 68 2 (.int .i64 (A.waits : Int)) rfl
  have q0 : Cell w3 (E + 1) 0 (.string (res r)) := by rw [← hw3, ← hsz0]; exact q0
  have q1 : Cell w3 (E + 1) 1 (.string (md m)) := by rw [← hw3, ← hsz0]; exact q1
  have q2 : Cell w3 (E + 1) 2 (.int .i64 (A.waits : Int)) := by rw [← hw3, ← hsz0]; exact q2
  have hsz3 : w3.heap.size = E + 2 := by rw [← hw3]; simp [hsz0]
  have G3 := G0.kept (sm3 _)
  have W3 := W0.kept (sm3 _)
  have E3 := E0.kept (sm3 _)
  have H3 := H0.kept (sm3 _)
  have Q3 := Q0.kept (sm3 _)
  clear G0 W0 E0 H0 Q0 f0 c0 c1 c2 c3 HX Hc sm3 hw3
  -- region 4
  obtain ⟨w4, hw4⟩ : ∃ w4, w3.setCell ⟨G, 4, none⟩ (.int .i64 ((A.waits : Int) + 1)) = w4 := ⟨_, rfl⟩
  have lab := G3.lab
  have sm4 : ∀ S : Nat → Prop, ¬ S 1 → Same σ S w3 w4 := fun S h => by rw [← hw4]; exact Same.setCell _ _ _ _ _ (by rw [lab]; exact h)
  have G4 : GP σ w4 G Bh Be Bw Bq (A.waits + 1) := by rw [← hw4]; exact G3.setN (A.waits + 1)
  have W4 := W3.kept (sm4 _ (by omega))
  have E4 := E3.kept (sm4 _ (by unfold SE; omega))
  have H4 := H3.kept (sm4 _ (by unfold SH; omega))
  have Q4 := Q3.kept (sm4 _ (by unfold SQ; omega))
  have f4 : Fr σ LG w w4 := f3.trans (by rw [← hw4]; exact Fr.setCell _ _ _ _ _ (by rw [lab]; exact .inl rfl))
  have sz4 : w4.heap.size = E + 2 := by rw [← hw4]; simp [hsz3]
  have k4 : ∀ {b o v}, σ b = 0 → Cell w3 b o v → Cell w4 b o v := fun {b o v} h0 h => h.of_block ((sm4 (· = 0) (by omega)).block b h.lt h0)
  have kE4 := k4 zE kE
  have q04 := k4 zQ q0
  have q14 := k4 zQ q1
  have q24 := k4 zQ q2
  -- region 5
  obtain ⟨w5, hup5, W5, g5⟩ := (W4.kept (Same.drew σ _ w4)).store ht (r, m, (A.waits : Int))
  have labW := W4.lab
  have sm5 : ∀ S : Nat → Prop, ¬ S 4 → Same σ S w4 w5 := fun S h => (Same.drew _ _ _).trans (Same.of_grown g5 (by rintro b e; cases e; rw [labW]; exact h))
  have G5 := G4.kept (sm5 _ (by omega))
  have E5 := E4.kept (sm5 _ (by unfold SE; omega))
  have H5 := H4.kept (sm5 _ (by unfold SH; omega))
  have Q5 := Q4.kept (sm5 _ (by unfold SQ; omega))
  have f5 : Fr σ LG w w5 := (f4.trans (Fr.drew _ _ _)).trans (Fr.of_grown g5 (by rintro b e; cases e; rw [labW]; unfold LG; omega))
  have k5 : ∀ {b o v}, σ b = 0 → Cell w4 b o v → Cell w5 b o v := fun {b o v} h0 h => h.of_block ((sm5 (· = 0) (by omega)).block b h.lt h0)
  have sz5 : E + 2 ≤ w5.heap.size := by rw [← sz4]; exact (sm5 (fun _ => False) (by simp)).size
  have kE5 := k5 zE kE4
  have q05 := k5 zQ q04
  have q15 := k5 zQ q14
  have q25 := k5 zQ q24
  have d34 := G4.wt.1
  have d35 := G5.wt.1
  have x1 := kE4.1
  have x2 := q04.1
  have x3 := q14.1
  have x4 := q24.1
  have y1 := kE5.1
  have y2 := q05.1
  have y3 := q15.1
  have y4 := q25.1
  have d3 := G3.n.1
  have fz3 := G3.n.2
  have hlk := (Q5.kept (Same.drew σ _ w5)).look hr
  have d55 := G5.q.1
  simp only [reqV] at hup5
  have hwa : (A.waits : Int) ≤ 1024 := by have := hI.waits; omega
  have HX5 := Hid.mk (And.intro G5 (And.intro W5 (And.intro E5 (And.intro H5 (And.intro Q5 f5)))))
  have Hc5 := Hid.mk (And.intro q15 q25)
  clear G3 W3 E3 H3 Q3 f3 G4 W4 E4 H4 Q4 f4 G5 W5 E5 H5 Q5 f5 sm4 sm5 k4 k5 kE kE4 kE5 q0 q04 q05 q1 q14 q15 q2 q24 q25 g5 lab labW
  go_wp2
  go_region_held3 (fun w' => w'.cell? ⟨G, 3, none⟩ = some (.map (some Bw)) ∧ w'.cell? ⟨E, 1, none⟩ = some (.string (tx t)) ∧ w'.cell? ⟨E + 1, 0, none⟩ = some (.string (res r)) ∧ w'.cell? ⟨E + 1, 1, none⟩ = some (.string (md m)) ∧ w'.cell? ⟨E + 1, 2, none⟩ = some (.int .i64 (A.waits : Int)))
    (first | exact ⟨d34, x1, x2, x3, x4⟩ | exact ⟨d35, y1, y2, y3, y4⟩) (fail)
  clear d34 x1 x2 x3 x4
  go_wp2
  by_cases hh : hasq r = true
  · rw [if_pos hh] at hlk
    go_region_held3 (fun w' => w'.cell? ⟨G, 5, none⟩ = some (.map (some Bq)) ∧ w'.cell? ⟨E + 1, 0, none⟩ = some (.string (res r)) ∧ (Instr.lookup 64 (.map (some Bq)) (.string (res r)) false).run Yba.prog w' = .ok (.map (some (bq r))) w')
      (exact ⟨d55, y2, hlk⟩) (fail)
    have hnil := run_eql_map_nil (P := Yba.prog) w5.drew 75 53 38 (some (bq r)) Yba.underlying75
    go_wp2
    obtain ⟨G5, W5, E5, H5, Q5, f5⟩ := HX5.out
    obtain ⟨w6, hw6⟩ : ∃ w6, w5.drew = w6 := ⟨_, rfl⟩
    have s6 : ∀ S, Same σ S w5 w6 := fun S => by rw [← hw6]; exact Same.drew _ _ _
    have G6 := G5.kept (s6 _)
    have W6 := W5.kept (s6 _)
    have E6 := E5.kept (s6 _)
    have H6 := H5.kept (s6 _)
    have Q6 := Q5.kept (s6 _)
    have f6 : Fr σ LG w w6 := f5.trans (by rw [← hw6]; exact Fr.drew _ _ _)
    have y3' : w6.cell? ⟨E + 1, 1, none⟩ = some (.string (md m)) := by rw [← hw6]; exact y3
    have y4' : w6.cell? ⟨E + 1, 2, none⟩ = some (.int .i64 (A.waits : Int)) := by rw [← hw6]; exact y4
    have sz6 : E + 2 ≤ w6.heap.size := by rw [← hw6]; exact sz5
    rw [hw6]
    clear G5 W5 E5 H5 Q5 f5 s6 HX5 hw6 hnil y1 y2 y3 y4 d35 d55 hlk Hc5 d3 fz3 hup5 hw4 e0
    have hh6 := hh
    have hz6 : ∀ b, w6.heap.size ≤ b → σ b = 0 := fun b hb => hz b (by omega)
    have zQ6 := zQ
    obtain ⟨bm, hbm⟩ : ∃ bm, bq r = bm := ⟨_, rfl⟩
    obtain ⟨v', w7, w8, σ', happ, hup, b1, b2, Q8, f7, f8⟩ := queue_step Q6 hr hm hh6 hz6 (by have := hI.quLen r m; omega) (A.waits : Int) 38
    have hlm := (Q6.kept (Same.drew σ _ w6)).lookIn hr hm hh6
    have hlm2 := (Q6.kept ((Same.alloc σ _ w6 (.cells #[.int .i64 (A.waits : Int)] 3)).trans (Same.drew σ _ _))).lookIn hr hm hh6
    obtain ⟨vq, hvq⟩ : ∃ vq, qv r m = vq := ⟨_, rfl⟩
    obtain ⟨M6, hM6⟩ : ∃ M6, w6.heap.size = M6 := ⟨_, rfl⟩
    rw [hvq, hbm] at hlm hlm2
    rw [hvq, hM6] at happ
    rw [hbm] at hup
    have z7 : ∀ {o v}, w6.cell? ⟨E + 1, o, none⟩ = some v → w7.cell? ⟨E + 1, o, none⟩ = some v := fun {o v} h => (World.cell?_of_block (f7.same.block (E + 1) (by omega) (by rw [b1 _ (by omega), zQ6]; omega))).trans h
    have z8 : ∀ {o v}, w6.cell? ⟨E + 1, o, none⟩ = some v → w8.cell? ⟨E + 1, o, none⟩ = some v := fun {o v} h => (World.cell?_of_block (f8.same.block (E + 1) (by omega) (by rw [b1 _ (by omega), zQ6]; omega))).trans h
    have p3 := z7 y3'
    have p4 := z7 y4'
    have r3 := z8 y3'
    have r4 := z8 y4'
    have nn := World.new_ne w6 _ y3'
    have HZ : Hid (ApPost σ w G (A.wait t r m) w8) := by
      have hq2 : HasQ hasq (fun r' m' => if r' = r ∧ m' = m then A.qu r m ++ [(A.waits : Int)] else A.qu r' m') := by
        refine hasQ_keep hHQ (r := r) (fun r' e m' => by simp [e]) hh ?_
        have hm' : m = 0 ∨ m = 1 := by omega
        rcases hm' with rfl | rfl
        · left; simp
        · right; simp
      have ag : ∀ b, b < w.heap.size → σ' b = σ b := fun b hb => (b1 b (by omega)).trans (rfl)
      exact ⟨σ', ag, b2, ⟨Bh, Be, Bw, Bq, hv, has, bh, _, _, _, (G6.sig b1).kept (f8.keep (by rintro l rfl; omega)), (W6.sig b1).kept (f8.keep (by rintro l rfl; omega)), (E6.sig b1).kept (f8.keep (by unfold SE; omega)), (H6.sig b1).kept (f8.keep (by unfold SH; omega)), Q8, hHH, hq2⟩,
        f6.cons f8 ag (by unfold LG; omega)⟩
    clear z7 z8 f7 f8 Q8 G6 W6 E6 H6 Q6 f6
    rw [hbm]
    go_region_held3 (fun w' => w'.cell? ⟨E + 1, 1, none⟩ = some (.string (md m)) ∧ w'.cell? ⟨E + 1, 2, none⟩ = some (.int .i64 (A.waits : Int))) (first | exact ⟨y3', y4'⟩ | exact ⟨p3, p4⟩ | exact ⟨r3, r4⟩ | go_keep) ((refine step_append_run (by rfl) _ _ _ (by rfl) _ _ (by rfl) (by rfl) happ ?_))
    all_goals go_wp2
    all_goals exact bodyPost_end (results_none rfl _ _ _) rfl ⟨rfl, HZ.out⟩
  · have hh' : hasq r = false := by simpa using hh
    rw [if_neg hh] at hlk
    go_region_held3 (fun w' => w'.cell? ⟨G, 5, none⟩ = some (.map (some Bq)) ∧ w'.cell? ⟨E + 1, 0, none⟩ = some (.string (res r)) ∧ (Instr.lookup 64 (.map (some Bq)) (.string (res r)) false).run Yba.prog w' = .ok (.map none) w')
      (exact ⟨d55, y2, hlk⟩) (fail)
    have hnil := run_eql_map_nil (P := Yba.prog) w5.drew 75 53 38 none Yba.underlying75
    obtain ⟨N5, hN5⟩ : ∃ N5, w5.heap.size = N5 := ⟨_, rfl⟩
    have hmm : (Instr.makeMap 75 none).run Yba.prog w5.drew = .ok (.map (some N5)) (w5.alloc (.map #[] 0)).drew := by rw [← hN5]; exact run_makeMap 75 w5.drew
    obtain ⟨wa, hwa1⟩ : ∃ wa, (w5.alloc (.map #[] 0)).drew = wa := ⟨_, rfl⟩
    rw [hwa1] at hmm
    obtain ⟨G5, W5, E5, H5, Q5, f5⟩ := HX5.out
    obtain ⟨σ1, hσ1⟩ : ∃ σ1 : Nat → Nat, σ1 = fun b => if b = N5 then 20 + r else σ b := ⟨_, rfl⟩
    have ag1 : ∀ b, b < w5.heap.size → σ1 b = σ b := fun b hb => by rw [hσ1]; exact if_neg (by omega)
    have sa : ∀ S, Same σ1 S w5 wa := fun S => by rw [← hwa1]; exact (Same.alloc _ _ _ _).trans (Same.drew _ _ _)
    have sza : wa.heap.size = N5 + 1 := by rw [← hwa1]; simp [hN5]
    have Ga := (G5.sig ag1).kept (sa _)
    have Wa := (W5.sig ag1).kept (sa _)
    have Ea := (E5.sig ag1).kept (sa _)
    have Ha := (H5.sig ag1).kept (sa _)
    have Qa := (Q5.sig ag1).kept (sa _)
    have fa : Fr σ LG w wa := f5.trans (by rw [← hwa1]; exact (Fr.alloc _ _ _ _).trans (Fr.drew _ _ _))
    have hma : MapF wa N5 md 2 (fun _ => none) := by rw [← hwa1, ← hN5]; exact (MapF.made w5 md 2).of_block rfl
    have lN : σ1 N5 = 20 + r := by rw [hσ1]; exact if_pos rfl
    obtain ⟨w6, hup6, Q6, g6⟩ := (Qa.kept (Same.drew _ _ _)).store hr hh' lN (hma.of_block (w' := wa.drew) rfl)
    obtain ⟨has1, hhas1⟩ : ∃ f : Nat → Bool, (fun j => if j = r then true else hasq j) = f := ⟨_, rfl⟩
    obtain ⟨bq1, hbq1⟩ : ∃ f : Nat → Nat, (fun j => if j = r then N5 else bq j) = f := ⟨_, rfl⟩
    rw [hhas1, hbq1] at Q6
    have hh6 : has1 r = true := by rw [← hhas1]; simp
    have hbm : bq1 r = N5 := by rw [← hbq1]; simp
    have Hhas1 := Hid.mk hhas1
    clear hhas1 hbq1
    have lQ := Qa.lab
    have s6 : ∀ S : Nat → Prop, ¬ S 5 → Same σ1 S wa w6 := fun S h => (Same.drew _ _ _).trans (Same.of_grown g6 (by rintro b e; cases e; rw [lQ]; exact h))
    have G6 := Ga.kept (s6 _ (by omega))
    have W6 := Wa.kept (s6 _ (by omega))
    have E6 := Ea.kept (s6 _ (by unfold SE; omega))
    have H6 := Ha.kept (s6 _ (by unfold SH; omega))
    have f6 : Fr σ LG w w6 := (fa.trans (Fr.drew _ _ _)).cons (Fr.of_grown (σ := σ1) (L := (· = 5)) g6 (by rintro b e; cases e; exact lQ)) (fun b hb => ag1 b (by omega)) (by unfold LG; omega)
    have hE1 : E + 1 < w5.heap.size := by omega
    have kp : ∀ {o v}, w5.cell? ⟨E + 1, o, none⟩ = some v → wa.cell? ⟨E + 1, o, none⟩ = some v := fun {o v} h => (World.cell?_of_block ((sa (fun _ => True)).block (E + 1) hE1 trivial)).trans h
    have kp6 : ∀ {o v}, wa.cell? ⟨E + 1, o, none⟩ = some v → w6.cell? ⟨E + 1, o, none⟩ = some v := fun {o v} h => (World.cell?_of_block ((s6 (· = 0) (by omega)).block (E + 1) (by omega) (by rw [ag1 _ hE1]; exact zQ))).trans h
    have a2 := kp y2
    have y2' := kp6 a2
    have y3' := kp6 (kp y3)
    have y4' := kp6 (kp y4)
    have ga5 := Ga.q.1
    have gb5 := G6.q.1
    have HX6 := Hid.mk (And.intro G6 (And.intro W6 (And.intro E6 (And.intro H6 (And.intro Q6 f6)))))
    have sz6 : N5 + 1 ≤ w6.heap.size := by rw [← sza]; exact (s6 (fun _ => False) (by simp)).size
    have Hσ1 : Hid (σ1 = fun b => if b = N5 then 20 + r else σ b) := hσ1
    have hz6 : ∀ b, w6.heap.size ≤ b → σ1 b = 0 := fun b hb => by rw [Hσ1.out]; dsimp only; rw [if_neg (by omega)]; exact hz b (by omega)
    have zQ6 : σ1 (E + 1) = 0 := (ag1 _ hE1).trans zQ
    clear G5 W5 E5 H5 Q5 f5 Ga Wa Ea Ha Qa fa G6 W6 E6 H6 Q6 f6 sa s6 kp kp6 hma g6 HX5 Hc5 hσ1 hwa1 d3 fz3 hup5 hw4 e0 y1 y2 y3 y4 d35 lQ lN
    go_wp2
    go_region_held3 (fun w' => w'.cell? ⟨G, 5, none⟩ = some (.map (some Bq)) ∧ w'.cell? ⟨E + 1, 0, none⟩ = some (.string (res r)))
      (first | exact ⟨ga5, a2⟩ | exact ⟨gb5, y2'⟩) (fail)
    go_wp2
    obtain ⟨G6, W6, E6, H6, Q6, f6⟩ := HX6.out
    clear hlk hnil hmm hup6 a2 y2' ga5 gb5 d55
    obtain ⟨v', w7, w8, σ', happ, hup, b1, b2, Q8, f7, f8⟩ := queue_step Q6 hr hm hh6 hz6 (by have := hI.quLen r m; omega) (A.waits : Int) 38
    have hlm := (Q6.kept (Same.drew σ1 _ w6)).lookIn hr hm hh6
    have hlm2 := (Q6.kept ((Same.alloc σ1 _ w6 (.cells #[.int .i64 (A.waits : Int)] 3)).trans (Same.drew σ1 _ _))).lookIn hr hm hh6
    obtain ⟨vq, hvq⟩ : ∃ vq, qv r m = vq := ⟨_, rfl⟩
    obtain ⟨M6, hM6⟩ : ∃ M6, w6.heap.size = M6 := ⟨_, rfl⟩
    rw [hvq, hbm] at hlm hlm2
    rw [hvq, hM6] at happ
    rw [hbm] at hup
    have z7 : ∀ {o v}, w6.cell? ⟨E + 1, o, none⟩ = some v → w7.cell? ⟨E + 1, o, none⟩ = some v := fun {o v} h => (World.cell?_of_block (f7.same.block (E + 1) (by omega) (by rw [b1 _ (by omega), zQ6]; omega))).trans h
    have z8 : ∀ {o v}, w6.cell? ⟨E + 1, o, none⟩ = some v → w8.cell? ⟨E + 1, o, none⟩ = some v := fun {o v} h => (World.cell?_of_block (f8.same.block (E + 1) (by omega) (by rw [b1 _ (by omega), zQ6]; omega))).trans h
    have p3 := z7 y3'
    have p4 := z7 y4'
    have r3 := z8 y3'
    have r4 := z8 y4'
    have nn := World.new_ne w6 _ y3'
    have HZ : Hid (ApPost σ w G (A.wait t r m) w8) := by
      have hq2 : HasQ has1 (fun r' m' => if r' = r ∧ m' = m then A.qu r m ++ [(A.waits : Int)] else A.qu r' m') := by
        rw [← Hhas1.out]
        refine hasQ_new hHQ (r := r) (fun r' e m' => by simp [e]) ?_
        have hm' : m = 0 ∨ m = 1 := by omega
        rcases hm' with rfl | rfl
        · left; simp
        · right; simp
      have ag : ∀ b, b < w.heap.size → σ' b = σ b := fun b hb => (b1 b (by omega)).trans (ag1 b (by omega))
      exact ⟨σ', ag, b2, ⟨Bh, Be, Bw, Bq, hv, has, bh, _, _, _, (G6.sig b1).kept (f8.keep (by rintro l rfl; omega)), (W6.sig b1).kept (f8.keep (by rintro l rfl; omega)), (E6.sig b1).kept (f8.keep (by unfold SE; omega)), (H6.sig b1).kept (f8.keep (by unfold SH; omega)), Q8, hHH, hq2⟩,
        f6.cons f8 ag (by unfold LG; omega)⟩
    clear z7 z8 f7 f8 Q8 G6 W6 E6 H6 Q6 f6
    go_region_held3 (fun w' => w'.cell? ⟨E + 1, 1, none⟩ = some (.string (md m)) ∧ w'.cell? ⟨E + 1, 2, none⟩ = some (.int .i64 (A.waits : Int))) (first | exact ⟨y3', y4'⟩ | exact ⟨p3, p4⟩ | exact ⟨r3, r4⟩ | go_keep) ((refine step_append_run (by rfl) _ _ _ (by rfl) _ _ (by rfl) (by rfl) happ ?_))
    all_goals go_wp2
    all_goals exact bodyPost_end (results_none rfl _ _ _) rfl ⟨rfl, HZ.out⟩

end Go.Proofs.Ybulkatsw.Md
