import Derived.Test.YbulkatswModel
import Derived.Laws.MakeOwn
import Derived.WalkSpells
import Derived.WalkLawsBesides
import Derived.Deep.RegionHeld3
import Derived.Deep.MidRow
import Derived.Deep.CutRange
import Derived.Deep.CutBlock
namespace Go.Proofs.Ybulkatsw.Md
open Go Go.RowKit Mf Rw
set_option linter.unusedVariables false

theorem Sl.of_owns {w : World} {base : Nat} {e : TypeId} {v : Value} {n : Nat} {xs : List Value} (h : w.ownsRow base e 1 v n xs) : Sl w e (fun g => base ≤ g) v xs := by
  obtain ⟨hl, hd⟩ := h
  have hl' : xs.length = n := by simpa using hl
  rcases hd with ⟨rfl, rfl⟩ | ⟨g, cap, cur, rfl, hb, hg, h1, h2, h3, h4⟩
  · exact .inl ⟨rfl, List.eq_nil_of_length_eq_zero hl'⟩
  · refine .inr ⟨g, 0, cap, cur, by rw [hl'], hb, hg, by omega, by omega, h2, ?_⟩
    rw [List.drop_zero, hl']
    simpa using h4

/-- What m.stop leaves. -/
def MsPost (σ : Nat → Nat) (w : World) (M : Nat) (mh : Nat → Value) (A : St) (w' : World) : Prop :=
  ∃ σ' mq, (∀ b, b < w.heap.size → σ' b = σ b) ∧ (∀ b, w'.heap.size ≤ b → σ' b = 0) ∧ MP σ' w' M mq mh A ∧ Fr σ LM w w'

theorem mstop_none {σ : Nat → Nat} {w : World} {M : Nat} {mq : Nat → Nat → Value} {mh : Nat → Value} {A : St} (hM : MP σ w M mq mh A) (hz : ∀ b, w.heap.size ≤ b → σ b = 0) {t : Nat} (ht : t < 3) (ho : A.wt t = none) :
    Calls Yba.prog 14 #[.pointer (some ⟨M, 0, none⟩), .int .i64 (t : Int)] w fun e w' => e = .returned (.tuple #[]) ∧ MsPost σ w M mh A w' := by
  have HZ : Hid (∀ o, MsPost σ w M mh A (w.alloc o)) := fun o => ⟨σ, mq, fun _ _ => rfl, fun b hb => hz b (by simp at hb; omega), hM.kept (Same.alloc _ _ _ _), Fr.alloc _ _ _ _⟩
  have c0 := (hM.mc.wt t ht 0 (by omega)).1
  have c1 := (hM.mc.wt t ht 1 (by omega)).1
  have c2 := (hM.mc.wt t ht 2 (by omega)).1
  have c3 := (hM.mc.wt t ht 3 (by omega)).1
  rw [ho] at c0 c1 c2 c3
  simp only [wcell, Nat.add_zero] at c0 c1 c2 c3
  have t1 : (t : Int) < 3 := by omega
  have t0 : (0 : Int) ≤ (t : Int) := by omega
  clear hM
  go_enter Yba.func14, Yba.ntmps14
  go_wp2
  exact bodyPost_ret (results_none rfl _ _ _) rfl ⟨rfl, HZ.out _⟩

set_option maxRecDepth 100000 in
set_option maxHeartbeats 4000000 in
theorem mstop_some {σ : Nat → Nat} {w : World} {M n : Nat} {mq : Nat → Nat → Value} {mh : Nat → Value} {A : St} (hM : MP σ w M mq mh A) (hz : ∀ b, w.heap.size ≤ b → σ b = 0) (hI : Inv n A) (hn : n ≤ 1024) {t r m : Nat} {o : Int} (ht : t < 3) (hr : r < 3) (hm : m < 2) (ho : A.wt t = some (r, m, o)) :
    Calls Yba.prog 14 #[.pointer (some ⟨M, 0, none⟩), .int .i64 (t : Int)] w fun e w' => e = .returned (.tuple #[]) ∧ MsPost σ w M mh (A.unwait t r m o) w' := by
  have c0 := (hM.mc.wt t ht 0 (by omega)).1
  have c1 := (hM.mc.wt t ht 1 (by omega)).1
  have c2 := (hM.mc.wt t ht 2 (by omega)).1
  have c3 := (hM.mc.wt t ht 3 (by omega)).1
  have f0 := (hM.mc.wt t ht 0 (by omega)).2
  have f1 := (hM.mc.wt t ht 1 (by omega)).2
  have f2 := (hM.mc.wt t ht 2 (by omega)).2
  have f3 := (hM.mc.wt t ht 3 (by omega)).2
  rw [ho] at c0 c1 c2 c3
  simp only [wcell, Nat.add_zero] at c0 c1 c2 c3 f0
  have a1 : (t : Int) < 3 := by omega
  have a0 : (0 : Int) ≤ (t : Int) := by omega
  have b1 : (r : Int) < 3 := by omega
  have b0 : (0 : Int) ≤ (r : Int) := by omega
  have d1 : (m : Int) < 2 := by omega
  have d0 : (0 : Int) ≤ (m : Int) := by omega
  have hlt : M < w.heap.size := hM.mc.lt
  obtain ⟨ws, hws⟩ : ∃ ws, (((w.setCell ⟨M, t * 4, none⟩ (.bool false)).setCell ⟨M, t * 4 + 1, none⟩ (.int .i64 0)).setCell ⟨M, t * 4 + 2, none⟩ (.int .i64 0)).setCell ⟨M, t * 4 + 3, none⟩ (.int .i64 0) = ws := ⟨_, rfl⟩
  have mc1 : MC ws M mq mh { A with wt := fun j => if j = t then none else A.wt j } := by rw [← hws]; exact hM.mc.setWt ht none
  have sM := hM.lab
  have gs : w.grownBy ws (some M) := by rw [← hws]; exact grown_trans (grown_trans (grown_trans (grown_setCell _ _ _ _) (grown_setCell _ _ _ _)) (grown_setCell _ _ _ _)) (grown_setCell _ _ _ _)
  have fs : Fr σ LM w ws := Fr.of_grown gs (by rintro b e; cases e; rw [sM]; exact .inl rfl)
  have szs : ws.heap.size = w.heap.size := by rw [← hws]; simp
  obtain ⟨w1, hw1⟩ : ∃ w1, ws.alloc (.cells #[.bool true, .int .i64 (r : Int), .int .i64 (m : Int), .int .i64 o] 36) = w1 := ⟨_, rfl⟩
  obtain ⟨T, hT⟩ : ∃ T, w.heap.size = T := ⟨_, rfl⟩
  have nT : T ≠ M := by omega
  have nT' : M ≠ T := by omega
  have hltT : M < T := by omega
  have e1 := (Cell.new ws #[.bool true, .int .i64 (r : Int), .int .i64 (m : Int), .int .i64 o] 36 1 (.int .i64 (r : Int)) rfl)
  have e2 := (Cell.new ws #[.bool true, .int .i64 (r : Int), .int .i64 (m : Int), .int .i64 o] 36 2 (.int .i64 (m : Int)) rfl)
  have e3 := (Cell.new ws #[.bool true, .int .i64 (r : Int), .int .i64 (m : Int), .int .i64 o] 36 3 (.int .i64 o) rfl)
  rw [hw1, szs, hT] at e1 e2 e3
  have s1 : ∀ S, Same σ S ws w1 := fun S => by rw [← hw1]; exact Same.alloc _ _ _ _
  have sz1 : w1.heap.size = T + 1 := by rw [← hw1]; simp [szs, hT]
  have mc1 := mc1.of_block ((s1 (fun _ => True)).block M mc1.lt trivial)
  have F1 : Fr σ LM w w1 := fs.trans (by rw [← hw1]; exact Fr.alloc _ _ _ _)
  have sg1 : Same σ (fun l => l ≠ 6) w w1 := (Same.of_grown gs (by rintro b e; cases e; exact fun h => h sM)).trans (s1 _)
  have qs1 : ∀ r, r < 3 → ∀ m, m < 2 → Sl w1 3 (fun g => σ g = 50 + 2 * r + m) (mq r m) (ints (A.qu r m)) := fun r hr m hm => (hM.qs r hr m hm).of_blocks fun g hg hl => sg1.block g hg (by rw [hl]; omega)
  have es1 : ∀ t, t < 3 → Sl w1 3 (fun g => σ g = 60 + t) (mh t) (ints (nats (A.held t))) := fun t ht => (hM.es t ht).of_blocks fun g hg hl => sg1.block g hg (by rw [hl]; omega)
  obtain ⟨a, c, hvq, hkc, hcm⟩ := (qs1 r hr m hm).shape
  rw [ints_length] at hvq hkc
  obtain ⟨k, hk⟩ : ∃ k, (A.qu r m).length = k := ⟨_, rfl⟩
  rw [hk] at hvq hkc
  have hk1 : (k : Int) ≤ 1024 := by have := hI.quLen r m; omega
  have cq := (mc1.q r hr m hm).1
  rw [hvq] at cq
  -- the make
  obtain ⟨i0, hi, hz0, hz1, hz2⟩ := info3
  obtain ⟨W6, hmk, hown, hgrow⟩ := run_make_own (P := Yba.prog) w1.drew (T + 1) 38 3 i0 (.int .i64 0) 1 Yba.underlying38 hi hz0 hz1 .i64 .i64 k (by rw [hz2]; omega) (by unfold maxLen; omega) (by simp [sz1])
  have hN : w1.drew.heap.size = T + 1 := by simp [sz1]
  rw [hN] at hmk hown
  have HS0 := Hid.mk (Sl.of_owns hown)
  have HB0 : Hid (Below (T + 1) w1 W6) := ⟨hgrow.os, hgrow.tape, hgrow.output, hgrow.size, fun b hb => hgrow.block b (by simpa [sz1] using hb) (by simp)⟩
  have E1 := e1.1
  have E2 := e2.1
  have HX := Hid.mk (And.intro mc1 (And.intro F1 (And.intro qs1 (And.intro es1 (And.intro e1 (And.intro e2 e3))))))
  clear hM mc1 F1 qs1 es1 sg1 s1 gs fs e1 e2 e3 hown hgrow hi
  go_enter Yba.func14, Yba.ntmps14
  go_wp2
  clear c0 c1 c2 c3 f0 f1 f2 f3 hws hw1
  go_region_held3 (fun w' => w'.cell? ⟨T, 1, none⟩ = some (.int .i64 (r : Int)) ∧ w'.cell? ⟨T, 2, none⟩ = some (.int .i64 (m : Int)) ∧ w'.cell? ⟨M, 12 + r * 2 + m, none⟩ = some (.slice a k c))
    (exact ⟨E1, E2, cq⟩) (fail)
  go_wp2
  clear hmk cq
  go_loopw [6, 39] (fun ov iv wr => ∃ j : Nat, j ≤ k ∧ iv = .int .i64 (j : Int) ∧ Sl wr 3 (fun g => T + 1 ≤ g) ov (ints (((A.qu r m).take j).filter (fun x => decide (x ≠ o)))) ∧ Below (T + 1) w1 wr) (fun _ iv _ => k - (intOf iv).toNat)
  case atStart => exact ⟨0, Nat.zero_le _, rfl, by simpa [ints] using HS0.out, HB0.out⟩
  case round =>
    obtain ⟨j, hjk, rfl, hsl, hbl⟩ := hrel
    clear HS0 HB0
    obtain ⟨mc1, F1, qs1, es1, e1, e2, e3⟩ := HX.out
    by_cases hlj : j < k
    · have z1 : (j : Int) < (k : Int) := by omega
      have z0 : (0 : Int) ≤ (j : Int) := by omega
      have hjl : j < (A.qu r m).length := by omega
      obtain ⟨x, hx⟩ : ∃ x, (A.qu r m)[j]? = some x := ⟨_, List.getElem?_eq_getElem hjl⟩
      obtain ⟨g, off, cap, cur, hv1, hok, hg, _, _, _, htk⟩ := (qs1 r hr m hm).pos (by intro e; rw [ints] at e; simp at e; rw [e] at hjl; simp at hjl)
      rw [hvq] at hv1
      injection hv1 with ea eb ec
      subst ea
      clear eb ec
      have hgT : g < T + 1 := by rw [← sz1]; exact (Array.getElem?_eq_some_iff.1 hg).1
      have hcj : wr.cell? ⟨g, off + j, none⟩ = some (.int .i64 x) := (World.cell?_of_block (hbl.block g hgT)).trans (cell_in hg htk j _ (by simp [ints, hx]))
      have E3 : wr.cell? ⟨T, 3, none⟩ = some (.int .i64 o) := (World.cell?_of_block (hbl.block T (by omega))).trans e3.1
      have hfil : ((A.qu r m).take (j + 1)).filter (fun x => decide (x ≠ o)) = ((A.qu r m).take j).filter (fun x => decide (x ≠ o)) ++ (if x = o then [] else [x]) := by
        rw [List.take_add_one, hx, List.filter_append]
        by_cases e : x = o
        · simp [e]
        · simp [e]
      have Hfil := Hid.mk hfil
      have Hsl := Hid.mk hsl
      have Hbl := Hid.mk hbl
      have hwsz : T + 1 ≤ wr.heap.size := by rw [← sz1]; exact hbl.size
      by_cases hxo : x = o
      · subst hxo
        clear mc1 F1 qs1 es1 e1 e2 e3 hok hg htk hvq hfil hsl hbl hx
        go_wp2
        refine ⟨⟨j + 1, by omega, by go_num, ?_, Hbl.out⟩, ?_⟩
        · rw [Hfil.out, if_pos rfl, List.append_nil]
          exact Hsl.out
        · simp [intOf]
          omega
      · obtain ⟨Nr, hNr⟩ : ∃ Nr, wr.heap.size = Nr := ⟨_, rfl⟩
        have hlf : (((A.qu r m).take j).filter (fun x => decide (x ≠ o))).length ≤ 1024 := by
          have h1 := List.length_filter_le (fun x => decide (x ≠ o)) ((A.qu r m).take j)
          have h2 : ((A.qu r m).take j).length ≤ j := by simp; omega
          omega
        obtain ⟨i0, hi, hz0, hz1, hz2⟩ := info3
        obtain ⟨v', w', happ, hS', hg', _⟩ := run_append_sl (P := Yba.prog) (w := wr.alloc (.cells #[.int .i64 x] 3)) (ok := fun g => T + 1 ≤ g) (v := u6) 38 38 i0 (.int .i64 0) 8 Yba.underlying38 hi hz0 hz1 hz2 rfl (hsl.of_blocks fun g hg _ => heap_alloc_old wr _ hg) ⟨wr.heap.size, 0, none⟩ 1 (.int .i64 x) (Cell.new wr #[.int .i64 x] 3 0 _ rfl).1 rfl
          (by rw [ints_length]; simp only [maxLen]; omega) (by rw [ints_length]; omega) (by simp; omega)
        rw [hNr] at happ
        have hown : ∀ b, u6.ownBlock = some b → T + 1 ≤ b := by
          intro b hb
          rcases hsl with ⟨rfl, _⟩ | ⟨g1, off1, cap1, cur1, rfl, hok1, _⟩
          · simp [Value.ownBlock] at hb
          · simp [Value.ownBlock] at hb
            subst hb
            exact hok1
        have hB' : Below (T + 1) w1 w' := ⟨hg'.os.trans hbl.os, hg'.tape.trans hbl.tape, hg'.output.trans hbl.output, Nat.le_trans hbl.size (Nat.le_trans (by simp) hg'.size), fun b hb =>
          (hg'.block b (by simp; omega) (fun e => by have := hown b e.symm; omega)).trans ((heap_alloc_old wr _ (by omega)).trans (hbl.block b hb))⟩
        have HS' := Hid.mk (And.intro hS' hB')
        have hxo' : ¬ x = o := hxo
        clear mc1 F1 qs1 es1 e1 e2 e3 hok hg htk hvq hfil hsl hbl hx hS' hB' hg' hi hown
        go_wp2_with (at_builtin; refine wpList_append_run (by rfl) _ _ _ (by rfl) _ _ (by rfl) (by rfl) happ ?_)
        refine ⟨⟨j + 1, by omega, by go_num, ?_, HS'.out.2⟩, ?_⟩
        · rw [Hfil.out, if_neg hxo, ints_append]
          exact HS'.out.1
        · simp [intOf]
          omega
    · have z1 : ¬ (j : Int) < (k : Int) := by omega
      have ej : (A.qu r m).take j = A.qu r m := List.take_of_length_le (by omega)
      rw [ej] at hsl
      obtain ⟨a6, c6, hu6, _, _⟩ := hsl.shape
      obtain ⟨k6, hk6⟩ : ∃ k6, (ints ((A.qu r m).filter (fun x => decide (x ≠ o)))).length = k6 := ⟨_, rfl⟩
      rw [hk6] at hu6
      subst hu6
      clear hk6
      have bM := hbl.block M (by omega)
      have bT := hbl.block T (by omega)
      have X1 := (World.cell?_of_block bT).trans E1
      have X2 := (World.cell?_of_block bT).trans E2
      have mcr := mc1.of_block bM
      have cM := (mcr.q r hr m hm).1
      have fM := (mcr.q r hr m hm).2
      have hwsz : T + 1 ≤ wr.heap.size := by rw [← sz1]; exact hbl.size
      have Y1 : (wr.setCell ⟨M, 12 + r * 2 + m, none⟩ (.slice a6 k6 c6)).cell? ⟨T, 1, none⟩ = some (.int .i64 (r : Int)) := by rw [World.cell?_setCell_other _ _ _ _ (by intro e; injection e with e1 e2; omega)]; exact X1
      have Y2 : (wr.setCell ⟨M, 12 + r * 2 + m, none⟩ (.slice a6 k6 c6)).cell? ⟨T, 2, none⟩ = some (.int .i64 (m : Int)) := by rw [World.cell?_setCell_other _ _ _ _ (by intro e; injection e with e1 e2; omega)]; exact X2
      have HZ : Hid (MsPost σ w M mh (A.unwait t r m o) (wr.setCell ⟨M, 12 + r * 2 + m, none⟩ (.slice a6 k6 c6)).drew) := by
        obtain ⟨w', hw'⟩ : ∃ w', (wr.setCell ⟨M, 12 + r * 2 + m, none⟩ (.slice a6 k6 c6)).drew = w' := ⟨_, rfl⟩
        have hb' : ∀ b, b ≠ M → w'.heap[b]? = wr.heap[b]? := fun b hb => by rw [← hw']; exact RowKit.Below.heap_setCell _ _ _ _ hb
        have sz' : w'.heap.size = wr.heap.size := by rw [← hw']; simp
        rw [hw']
        obtain ⟨σ', hσ'⟩ : ∃ σ' : Nat → Nat, σ' = fun b => if T + 1 ≤ b ∧ b < wr.heap.size then 50 + 2 * r + m else σ b := ⟨_, rfl⟩
        have ag : ∀ b, b < T + 1 → σ' b = σ b := fun b hb => by rw [hσ']; exact if_neg (by omega)
        have mcw : MC w' M (fun r' m' => if r' = r ∧ m' = m then .slice a6 k6 c6 else mq r' m') mh (A.unwait t r m o) := by rw [← hw']; exact (mcr.setQ hr hm (.slice a6 k6 c6) _).of_block rfl
        have old : ∀ {e v xs l}, l ≠ 6 → Sl w1 e (fun g => σ g = l) v xs → Sl w' e (fun g => σ' g = l) v xs := fun {e v xs l} hl h => by
          refine ((h.mono (ok' := fun g => g < T + 1 ∧ σ g = l) fun g hg h' => ⟨by omega, h'⟩).of_blocks fun g hg h' => ?_).mono fun g _ h' => (ag g h'.1).trans h'.2
          exact (hb' g (fun e => by rw [e, sM] at h'; omega)).trans (hbl.block g h'.1)
        refine ⟨σ', _, fun b hb => ag b (by omega), fun b hb => ?_, ⟨(ag M (by omega)).trans sM, mcw, fun r' hr' m' hm' => ?_, fun t' ht' => old (by omega) (es1 t' ht')⟩, ?_⟩
        · rw [hσ']
          dsimp only
          rw [if_neg (by omega)]
          exact hz b (by omega)
        · try dsimp only
          by_cases e : r' = r ∧ m' = m
          · obtain ⟨rfl, rfl⟩ := e
            simp only [and_self, if_true, St.unwait]
            refine (hsl.of_blocks fun g hg h' => hb' g (by omega)).mono fun g hg h' => ?_
            rw [hσ']
            exact if_pos ⟨h', by omega⟩
          · simp only [if_neg e, St.unwait]
            exact old (by omega) (qs1 r' hr' m' hm')
        · refine ⟨?_, ?_, ?_, ⟨by have := F1.size; have := hbl.size; omega, fun b hb hn => ?_⟩⟩
          · rw [← hw']; exact hbl.os.trans F1.os
          · rw [← hw']; exact hbl.tape.trans F1.tape
          · rw [← hw']; exact hbl.output.trans F1.output
          · exact ((hb' b (fun e => hn (by rw [e, sM]; exact .inl rfl))).trans (hbl.block b (by omega))).trans (F1.same.block b hb hn)
      clear mc1 F1 qs1 es1 e1 e2 e3 hsl hbl bM bT mcr HX E1 E2 hvq
      go_wp2
      go_region_held3 (fun w' => w'.cell? ⟨T, 1, none⟩ = some (.int .i64 (r : Int)) ∧ w'.cell? ⟨T, 2, none⟩ = some (.int .i64 (m : Int)))
        (first | exact ⟨X1, X2⟩ | exact ⟨Y1, Y2⟩) (fail)
      go_wp2
      exact bodyPost_end (results_none rfl _ _ _) rfl ⟨rfl, HZ.out⟩

/-- m.stop. -/
theorem mstop_in {σ : Nat → Nat} {w : World} {M n : Nat} {mq : Nat → Nat → Value} {mh : Nat → Value} {A : St} (hM : MP σ w M mq mh A) (hz : ∀ b, w.heap.size ≤ b → σ b = 0) (hI : Inv n A) (hn : n ≤ 1024) {t : Nat} (ht : t < 3) :
    Calls Yba.prog 14 #[.pointer (some ⟨M, 0, none⟩), .int .i64 (t : Int)] w fun e w' => e = .returned (.tuple #[]) ∧ MsPost σ w M mh (A.stop t) w' := by
  cases ho : A.wt t with
  | none =>
    have e : A.stop t = A := by unfold St.stop; rw [ho]
    rw [e]
    exact mstop_none hM hz ht ho
  | some x =>
    obtain ⟨r, m, o⟩ := x
    have e : A.stop t = A.unwait t r m o := by unfold St.stop; rw [ho]
    rw [e]
    obtain ⟨hr, hm, hmem⟩ := hI.wt t r m o ho
    exact mstop_some hM hz hI hn ht hr hm ho

end Go.Proofs.Ybulkatsw.Md
