import Derived.Test.YbulkatswT2
import Derived.Deep.RegionLaw
namespace Go.Proofs.Ybulkatsw.Md
open Go Go.RowKit Mf Rw
set_option linter.unusedVariables false

set_option maxRecDepth 100000 in
set_option maxHeartbeats 40000000 in
theorem law_any (a0 : Option Addr) (len cap : Nat) (f : Nat → Nat → UInt8) (w : World) (hlen : len ≤ 1024) (hI : Items w a0 len f) :
    Calls Yba.prog 5 #[.slice a0 len cap] w fun e w' => e = .returned (.bool true) ∧ Below w.heap.size w w' := by
  have q0 : (len : Int) ≤ 1024 := by omega
  have q0' : ¬ (1024 : Int) < (len : Int) := by omega
  have HI := Hid.mk hI
  clear hI
  go_enter Yba.func5, Yba.ntmps5
  go_upto_region 6 with (go_at_call 8; refine (new_in w).mono ?_; rintro e w1 ⟨G, σ, rfl, hN1, hN2, hGr, hFr⟩)
  have HL := Hid.mk (li_start hN1 hN2 hGr hFr)
  clear hN1 hN2 hGr hFr
  obtain ⟨M, hM⟩ : ∃ M, w1.heap.size = M := ⟨_, rfl⟩
  obtain ⟨w2, hw2⟩ : ∃ w2, w1.alloc (.cells zeros34 46) = w2 := ⟨_, rfl⟩
  rw [hM, hw2] at HL
  simp only [zeros34] at hw2
  rw [hM, hw2]
  clear hw2
  go_loopw [49] (fun iv wr => ∃ j : Nat, j ≤ len ∧ iv = .int .i64 (j : Int) ∧ LI w G M j wr) (fun iv _ => len - (intOf iv).toNat)
  case atStart => exact ⟨0, Nat.zero_le _, rfl, HL.out⟩
  case round =>
    obtain ⟨j, hjl, rfl, σ, A, mq, mh, hIA, hGr, hMP, hz, h0, hB⟩ := hrel
    clear HL
    by_cases hlt : j < len
    · have z1 : (j : Int) < (len : Int) := by omega
      have z0 : (0 : Int) ≤ (j : Int) := by omega
      have z2 : IntKind.i64.wrap ((j : Int) + 1) = (j : Int) + 1 := by rw [IntKind.wrap_i64]; omega
      obtain ⟨b, off, rfl, hcell⟩ : ∃ b off, a0 = some ⟨b, off, none⟩ ∧ ∀ i, i < len → ∀ c, c < 4 → w.cell? ⟨b, off + i * 4 + c, none⟩ = some (.int .u8 ((f i c).toNat : Int)) := by
        rcases HI.out with h | h
        · omega
        · exact h
      have hbw : b < w.heap.size := World.block_lt_of_cell? w _ (hcell j hlt 0 (by omega))
      have hcr : ∀ c, c < 4 → wr.cell? ⟨b, off + j * 4 + c, none⟩ = some (.int .u8 ((f j c).toNat : Int)) := fun c hc => (World.cell?_of_block (hB.block b hbw)).trans (hcell j hlt c hc)
      have g0 := hcr 0 (by omega)
      have g1 := hcr 1 (by omega)
      have g2 := hcr 2 (by omega)
      have g3 := hcr 3 (by omega)
      simp only [Nat.add_zero] at g0
      have hki : ∀ w, Calls Yba.prog 9 #[.int .u8 ((f j 0).toNat : Int)] w fun e w' => e = .returned (.int .i64 (kind ((f j 0).toNat % 5))) ∧ w' = w := fun w => kind_in (f j 0) w
      obtain ⟨X0, hX0⟩ : ∃ x : Nat, (f j 0).toNat = x := ⟨_, rfl⟩
      obtain ⟨X1, hX1⟩ : ∃ x : Nat, (f j 1).toNat = x := ⟨_, rfl⟩
      obtain ⟨X2, hX2⟩ : ∃ x : Nat, (f j 2).toNat = x := ⟨_, rfl⟩
      obtain ⟨X3, hX3⟩ : ∃ x : Nat, (f j 3).toNat = x := ⟨_, rfl⟩
      rw [hX0] at g0 hki
      rw [hX1] at g1
      rw [hX2] at g2
      rw [hX3] at g3
      obtain ⟨t, hxt⟩ : ∃ t, X1 % 3 = t := ⟨_, rfl⟩
      obtain ⟨r, hxr⟩ : ∃ r, X2 % 3 = r := ⟨_, rfl⟩
      obtain ⟨m, hxm⟩ : ∃ m, X3 % 2 = m := ⟨_, rfl⟩
      obtain ⟨k, hxk⟩ : ∃ k, X0 % 5 = k := ⟨_, rfl⟩
      rw [hxk] at hki
      have ht : t < 3 := by omega
      have hr : r < 3 := by omega
      have hm : m < 2 := by omega
      have hk : k < 5 := by omega
      have y1 : (X1 : Int) % 3 = (t : Int) := by omega
      have y2 : (X2 : Int) % 3 = (r : Int) := by omega
      have y3 : (X3 : Int) % 2 = (m : Int) := by omega
      have y1' : (X1 : Int).tmod 3 = (t : Int) := by rw [Int.tmod_eq_emod_of_nonneg (by omega)]; exact y1
      have y2' : (X2 : Int).tmod 3 = (r : Int) := by rw [Int.tmod_eq_emod_of_nonneg (by omega)]; exact y2
      have y3' : (X3 : Int).tmod 2 = (m : Int) := by rw [Int.tmod_eq_emod_of_nonneg (by omega)]; exact y3
      have hwt : IntKind.u8.wrap (t : Int) = (t : Int) := by simp [IntKind.wrap, IntKind.signed, IntKind.bits]; omega
      have hwr : IntKind.u8.wrap (r : Int) = (r : Int) := by simp [IntKind.wrap, IntKind.signed, IntKind.bits]; omega
      have hwm : IntKind.u8.wrap (m : Int) = (m : Int) := by simp [IntKind.wrap, IntKind.signed, IntKind.bits]; omega
      have vt : IntKind.i64.wrap (t : Int) = (t : Int) := by rw [IntKind.wrap_i64]; omega
      have vr : IntKind.i64.wrap (r : Int) = (r : Int) := by rw [IntKind.wrap_i64]; omega
      have vm : IntKind.i64.wrap (m : Int) = (m : Int) := by rw [IntKind.wrap_i64]; omega
      have t0 : (0 : Int) ≤ (t : Int) := by omega
      have t1 : (t : Int) < 3 := by omega
      have r0 : (0 : Int) ≤ (r : Int) := by omega
      have r1 : (r : Int) < 3 := by omega
      have m0 : (0 : Int) ≤ (m : Int) := by omega
      have m1 : (m : Int) < 2 := by omega
      have Hki := Hid.mk hki
      have HA := Hid.mk (fun o => apply_in (hGr.kept (Same.alloc σ LG wr o)) (fun b hb => hz b (by simp at hb; omega)) hIA (by omega) ht hr hm hk)
      have HR := Hid.mk (And.intro hIA (And.intro hGr (And.intro hMP (And.intro hz (And.intro h0 hB)))))
      clear hki hcr hcell hIA hGr hMP hz h0 hB hX0 hX1 hX2 hX3 hxt hxr hxm hxk
      obtain ⟨K, hK⟩ : ∃ K, kind k = K := ⟨_, rfl⟩
      simp only [evCells, hK] at HA
      rw [hK] at Hki
      go_upto_region 13 with (first | (go_at_call 9; refine (Hki.out _).mono ?_; rintro e w5 ⟨rfl, rfl⟩) | (go_at_call 11; refine (tx_in t _).mono ?_; rintro e w5 ⟨rfl, rfl⟩) | (go_at_call 12; refine (res_in r _).mono ?_; rintro e w5 ⟨rfl, rfl⟩) | (go_at_call 13; refine (md_in m _).mono ?_; rintro e w5 ⟨rfl, rfl⟩) | (go_at_call 10; refine (HA.out _).mono ?_; rintro e w5 ⟨rfl, hAp⟩))
      obtain ⟨hIA, hGr, hMP, hz, h0, hB⟩ := HR.out
      obtain ⟨σ1, hmid⟩ := mid_of hIA (hIA.step hr hm) hMP h0 hB hAp
      have HM := Hid.mk hmid
      clear HR HA Hki hAp hIA hGr hMP hz h0 hB g0 g1 g2 g3 y1 y2 y3 y1' y2' y3' hwt hwr hwm hmid
      match k, hk with
      | 4, _ =>
        obtain rfl : K = 10 := by rw [← hK]; rfl
        clear hK
        go_wp2
        refine ⟨⟨j + 1, by omega, by go_num, ?_⟩, ?_⟩
        · obtain ⟨h1, h2, h3, h4, h5, h6, h7⟩ := HM.out
          exact li_end HM.out (fun _ _ => rfl) h5 h4 (Fr.refl _ _ _)
        · simp [intOf]
          omega
      | 0, _ =>
        obtain rfl : K = 2 := by rw [← hK]; rfl
        clear hK
        obtain ⟨hIA, hIC, hGr, hMP, hz, h0, hB⟩ := HM.out
        have lM := hMP.lab
        have hwa : (A.waits : Int) ≤ 1024 := by have := hIA.waits; omega
        obtain ⟨w6, hw6⟩ : ∃ w6, (((w5.setCell ⟨M, t * 4, none⟩ (.bool true)).setCell ⟨M, t * 4 + 1, none⟩ (.int .i64 (r : Int))).setCell ⟨M, t * 4 + 2, none⟩ (.int .i64 (m : Int))).setCell ⟨M, t * 4 + 3, none⟩ (.int .i64 (A.waits : Int)) = w6 := ⟨_, rfl⟩
        have mc6 : MC w6 M mq mh { A with wt := fun j => if j = t then some (r, m, (A.waits : Int)) else A.wt j } := by rw [← hw6]; exact hMP.mc.setWt ht (some (r, m, (A.waits : Int)))
        have g6 : w5.grownBy w6 (some M) := by rw [← hw6]; exact grown_trans (grown_trans (grown_trans (grown_setCell _ _ _ _) (grown_setCell _ _ _ _)) (grown_setCell _ _ _ _)) (grown_setCell _ _ _ _)
        have MP6 := (hMP.upon mc6 g6 rfl rfl).kept (Same.drew σ1 LM w6)
        have sz6 : w6.heap.size = w5.heap.size := by rw [← hw6]; simp
        have F6 : Fr σ1 LM w5 w6.drew := (Fr.of_grown g6 (by rintro b e; cases e; rw [lM]; exact .inl rfl)).trans (Fr.drew _ _ _)
        obtain ⟨wd, hwd⟩ : ∃ wd, w6.drew = wd := ⟨_, rfl⟩
        rw [hwd] at MP6 F6
        have szd : wd.heap.size = w5.heap.size := by rw [← hwd]; simpa using sz6
        obtain ⟨a, kk, c, w7, σ', happ, b1, b2, mc7, MP8, f7⟩ := m_queue_step MP6 hr hm (fun b hb => hz b (by omega)) (by have := hIA.quLen r m; show (A.qu r m).length ≤ 1024; omega) (A.waits : Int) 38
        have lM7 : σ' M = 6 := (b1 M (by rw [szd]; exact hMP.mc.lt)).trans lM
        have HZ : Hid (LI w G M (j + 1) ((w7.setCell ⟨M, 12 + r * 2 + m, none⟩ (.slice a kk c)).setCell ⟨M, 33, none⟩ (.int .i64 ((A.waits : Int) + 1)))) := by
          have hM9 := MP8.upon (MP8.mc.setN (A.waits + 1)) (grown_setCell _ _ _ _) rfl rfl
          refine li_end HM.out (σ' := σ') (fun b hb => b1 b (by omega)) (fun b hb => b2 b (by simpa using hb)) hM9 ?_
          exact F6.cons ((f7.mono (L' := LM) (by unfold LM; omega)).trans (((fr_store _ lM7).trans (fr_store _ lM7)).mono (by unfold LM; omega))) (fun b hb => b1 b (by omega)) (fun l h => h)
        have x0 := (hMP.mc.wt t ht 0 (by omega)).1
        have x1 := (hMP.mc.wt t ht 1 (by omega)).1
        have x2 := (hMP.mc.wt t ht 2 (by omega)).1
        have x3 := (hMP.mc.wt t ht 3 (by omega)).1
        have p0 := (hMP.mc.wt t ht 0 (by omega)).2
        have p1 := (hMP.mc.wt t ht 1 (by omega)).2
        have p2 := (hMP.mc.wt t ht 2 (by omega)).2
        have p3 := (hMP.mc.wt t ht 3 (by omega)).2
        simp only [Nat.add_zero] at x0 p0
        have x33 := hMP.mc.n.1
        have z33 := mc6.n.1
        have y33 := MP6.mc.n.1
        have yq := (MP6.mc.q r hr m hm).1
        have v33 := (mc7.n).1
        have u33 := (mc7.n).2
        have vq := (mc7.q r hr m hm).1
        have uq := (mc7.q r hr m hm).2
        have s33 := MP8.mc.n.1
        have k33 := MP8.mc.n.2
        have hMd : M < wd.heap.size := MP6.mc.lt
        have hMn : wd.heap.size ≠ M := by omega
        obtain ⟨Nd, hNd⟩ : ∃ Nd, wd.heap.size = Nd := ⟨_, rfl⟩
        rw [hNd] at happ hMd hMn
        rw [← hw6] at z33
        obtain ⟨vq0, hvq0⟩ : ∃ v, mq r m = v := ⟨_, rfl⟩
        rw [hvq0] at happ yq vq
        have hMn' : M ≠ Nd := by omega
        clear hIA hIC hGr hMP hz h0 hB mc6 g6 MP6 F6 mc7 MP8 f7 b1 b2 lM lM7 szd sz6
        go_wp2
        go_region_held3 (fun w' => w'.cell? ⟨M, 33, none⟩ = some (.int .i64 (A.waits : Int))) (first | exact x33 | exact z33 | go_keep) (fail)
        go_wp2
        go_region_law (refine step_append_run (by rfl) _ _ _ (by rfl) _ _ (by rfl) (by rfl) happ ?_)
        all_goals go_wp2
        all_goals (refine ⟨⟨j + 1, by omega, by go_num, HZ.out⟩, ?_⟩; simp [intOf]; omega)
      | 1, _ =>
        obtain rfl : K = 1 := by rw [← hK]; rfl
        clear hK
        obtain ⟨hIA, hIC, hGr, hMP, hz, h0, hB⟩ := HM.out
        have HS : Hid (Calls Yba.prog 14 #[.pointer (some ⟨M, 0, none⟩), .int .i64 (t : Int)] w5 fun e w' => e = .returned (.tuple #[]) ∧ MsPost σ1 w5 M mh (A.stop t) w') := mstop_in hMP hz hIA (by omega) ht
        have hIB := hIA.stop t
        obtain ⟨B, hBd⟩ : ∃ B, A.stop t = B := ⟨_, rfl⟩
        rw [hBd] at HS hIB
        have HIB := Hid.mk hIB
        have hMw : M < w5.heap.size := hMP.mc.lt
        clear hIA hIC hGr hMP hz h0 hB hIB
        have em : IntKind.i64.wrap ((m : Int) + 1) = (m : Int) + 1 := by rw [IntKind.wrap_i64]; omega
        go_upto_region 20 with (go_at_call 14; refine HS.out.mono ?_; rintro e w6 ⟨rfl, hPost⟩)
        obtain ⟨σ2, mq2, ag2, z2', MP6, fr6⟩ := hPost
        have lM := MP6.lab
        obtain ⟨w7, hw7⟩ : ∃ w7, w6.setCell ⟨M, 18 + r * 3 + t, none⟩ (.int .i64 ((m : Int) + 1)) = w7 := ⟨_, rfl⟩
        have MP7 : MP σ2 w7 M mq2 mh { B with hold := fun r' t' => if r' = r ∧ t' = t then m + 1 else B.hold r' t' } := MP6.upon (W' := w7) (by rw [← hw7]; exact MP6.mc.setH hr ht (m + 1)) (by rw [← hw7]; exact grown_setCell _ _ _ _) rfl rfl
        have sz7 : w7.heap.size = w6.heap.size := by rw [← hw7]; simp
        have s6 := fr6.size
        have F7 : Fr σ1 LM w5 w7 := fr6.cons (σ' := σ2) (L' := (· = 6)) (by rw [← hw7]; exact fr_store _ lM) ag2 (by unfold LM; omega)
        obtain ⟨a, kk, c, w8, σ', happ, b1, b2, mc8, MP9, f8⟩ := m_held_step MP7 ht (fun b hb => z2' b (by omega)) (by have := HIB.out.heldLen t; show (B.held t).length ≤ 1024; omega) r 38
        have lM8 : σ' M = 6 := MP9.lab
        have HZ : Hid (LI w G M (j + 1) ((w8.setCell ⟨M, 27 + t, none⟩ (.slice a kk c)).setCell ⟨M, 30 + t, none⟩ (.bool true))) := by
          have eC : A.step 1 t r m = B.grant t r m := by unfold St.step; rw [if_neg (by omega), if_pos rfl, hBd]
          have HM' := HM.out
          rw [eC] at HM'
          have ag' : ∀ b, b < w5.heap.size → σ' b = σ1 b := fun b hb => (b1 b (by omega)).trans (ag2 b hb)
          refine li_end HM' (σ' := σ') ag' (fun b hb => b2 b (by simpa using hb)) MP9 ?_
          exact F7.cons ((f8.mono (L' := LM) (by unfold LM; omega)).trans (((fr_store _ lM8).trans (fr_store _ lM8)).mono (by unfold LM; omega))) ag' (fun l h => h)
        have xh := (MP6.mc.h r hr t ht).1
        have ph := (MP6.mc.h r hr t ht).2
        have ye := (MP7.mc.e t ht).1
        have ve := (mc8.e t ht).1
        have ue := (mc8.e t ht).2
        have vo := ((mc8.on t ht).other M (27 + t) (.slice a kk c) (.inr (by omega))).1
        have uo := ((mc8.on t ht).other M (27 + t) (.slice a kk c) (.inr (by omega))).2
        obtain ⟨Nd, hNd⟩ : ∃ Nd, w7.heap.size = Nd := ⟨_, rfl⟩
        have hMd : M < Nd := by omega
        have hMn : Nd ≠ M := by omega
        have hMn' : M ≠ Nd := by omega
        rw [hNd] at happ
        obtain ⟨ve0, hve0⟩ : ∃ v, mh t = v := ⟨_, rfl⟩
        rw [hve0] at happ ye ve
        clear MP6 MP7 MP9 mc8 fr6 F7 f8 b1 b2 lM lM8 HS HM sz7 s6
        go_wp2
        go_region_law (refine step_append_run (by rfl) _ _ _ (by rfl) _ _ (by rfl) (by rfl) happ ?_)
        all_goals go_wp2
        all_goals (refine ⟨⟨j + 1, by omega, by go_num, HZ.out⟩, ?_⟩; simp [intOf]; omega)
      | 2, _ =>
        obtain rfl : K = 5 := by rw [← hK]; rfl
        clear hK
        obtain ⟨hIA, hIC, hGr, hMP, hz, h0, hB⟩ := HM.out
        have HS : Hid (Calls Yba.prog 14 #[.pointer (some ⟨M, 0, none⟩), .int .i64 (t : Int)] w5 fun e w' => e = .returned (.tuple #[]) ∧ MsPost σ1 w5 M mh (A.stop t) w') := mstop_in hMP hz hIA (by omega) ht
        have hIB := hIA.stop t
        obtain ⟨B, hBd⟩ : ∃ B, A.stop t = B := ⟨_, rfl⟩
        rw [hBd] at HS hIB
        have HIB := Hid.mk hIB
        have hMw : M < w5.heap.size := hMP.mc.lt
        clear hIA hIC hGr hMP hz h0 hB hIB
        go_upto_region 26 with (go_at_call 14; refine HS.out.mono ?_; rintro e w6 ⟨rfl, hPost⟩)
        obtain ⟨σ2, mq2, ag2, z2', MP6, fr6⟩ := hPost
        have lM := MP6.lab
        have xe := (MP6.mc.e t ht).1
        obtain ⟨a, c, hve, hkc, hcm⟩ := (MP6.es t ht).shape
        obtain ⟨kk, hkk⟩ : ∃ kk, (B.held t).length = kk := ⟨_, rfl⟩
        have hl1 : (ints (nats (B.held t))).length = kk := by simp [ints, nats, hkk]
        rw [hl1] at hve hkc
        have hk1 : (kk : Int) ≤ 1024 := by have := HIB.out.heldLen t; omega
        rw [hve] at xe
        have HMP6 : Hid (MP σ2 w6 M mq2 mh (B.back t ((B.held t).take 0))) := by
          have e : B.back t ((B.held t).take 0) = B := by simp [St.back]
          rw [e]
          exact MP6
        have Hfr6 := Hid.mk (And.intro fr6 (And.intro ag2 z2'))
        clear MP6 HS fr6 ag2 z2'
        go_upto_region 27 with fail
        clear xe
        go_loopw [167] (fun iv wq => ∃ i : Nat, i ≤ kk ∧ iv = .int .i64 (i : Int) ∧ MP σ2 wq M mq2 mh (B.back t ((B.held t).take i)) ∧ Fr σ2 (· = 6) w6 wq) (fun iv _ => kk - (intOf iv).toNat)
        case atStart => exact ⟨0, Nat.zero_le _, rfl, HMP6.out, Fr.refl _ _ _⟩
        case round =>
          obtain ⟨i, hik, rfl, hMq, hFq⟩ := hrel
          clear HMP6
          by_cases hil : i < kk
          · have y1 : (i : Int) < (kk : Int) := by omega
            have y0 : (0 : Int) ≤ (i : Int) := by omega
            have hjl : i < (B.held t).length := by omega
            obtain ⟨rj, hrj⟩ : ∃ rj, (B.held t)[i]? = some rj := ⟨_, List.getElem?_eq_getElem hjl⟩
            have hr3 : rj < 3 := HIB.out.held t rj (List.mem_of_getElem? hrj)
            obtain ⟨g, goff, gcap, cur, hv1, hok, hg, _, _, _, htk⟩ := (hMq.es t ht).pos (by intro e; have e2 := congrArg List.length e; simp [ints, nats, St.back] at e2; rw [e2] at hjl; simp at hjl)
            rw [hve] at hv1
            injection hv1 with ea eb ec
            subst ea
            clear eb ec
            have hcj : wr.cell? ⟨g, goff + i, none⟩ = some (.int .i64 (rj : Int)) := cell_in hg htk i _ (by simp [ints, nats, St.back, hrj])
            have q1 : (rj : Int) < 3 := by omega
            have q2 : (0 : Int) ≤ (rj : Int) := by omega
            have xh := (hMq.mc.h rj hr3 t ht).1
            have ph := (hMq.mc.h rj hr3 t ht).2
            have HN : Hid (MP σ2 (wr.setCell ⟨M, 18 + rj * 3 + t, none⟩ (.int .i64 0)) M mq2 mh (B.back t ((B.held t).take (i + 1))) ∧ Fr σ2 (· = 6) w6 (wr.setCell ⟨M, 18 + rj * 3 + t, none⟩ (.int .i64 0))) := by
              refine ⟨?_, hFq.trans (fr_store _ lM)⟩
              have e1 := hMq.upon (hMq.mc.setH hr3 ht 0) (grown_setCell _ _ _ _) rfl rfl
              have e2 := back_succ B t (B.held t) i rj hrj
              have e3 : B.back t ((B.held t).take (i + 1)) = { B.back t ((B.held t).take i) with hold := fun r' t' => if r' = rj ∧ t' = t then 0 else (B.back t ((B.held t).take i)).hold r' t' } := by
                have e4 : (B.back t ((B.held t).take (i + 1))).hold = fun r' t' => if r' = rj ∧ t' = t then 0 else (B.back t ((B.held t).take i)).hold r' t' := e2.symm
                rw [← e4]
                rfl
              rw [e3]
              exact e1
            clear hMq hFq hg htk hok hve hrj
            go_wp2
            refine ⟨⟨i + 1, by omega, by go_num, HN.out.1, HN.out.2⟩, ?_⟩
            simp [intOf]
            omega
          · have y1 : ¬ (i : Int) < (kk : Int) := by omega
            have etk : (B.held t).take i = B.held t := List.take_of_length_le (by omega)
            rw [etk] at hMq
            obtain ⟨fr6, ag2, z2'⟩ := Hfr6.out
            have xe := (hMq.mc.e t ht).1
            have pe := (hMq.mc.e t ht).2
            have xo := ((hMq.mc.on t ht).other M (27 + t) (.slice none 0 0) (.inr (by omega))).1
            have po := ((hMq.mc.on t ht).other M (27 + t) (.slice none 0 0) (.inr (by omega))).2
            have HZ : Hid (LI w G M (j + 1) ((wr.setCell ⟨M, 27 + t, none⟩ (.slice none 0 0)).setCell ⟨M, 30 + t, none⟩ (.bool false))) := by
              have eC : A.step 2 t r m = (B.back t (B.held t)).free t := by unfold St.step; rw [if_neg (by omega), if_neg (by omega), if_pos (by omega), hBd]
              have HM' := HM.out
              rw [eC] at HM'
              have hs6 := hFq.size
              refine li_end HM' (σ' := σ2) ag2 (fun b hb => z2' b (by simp at hb; omega)) (hMq.free ht) ?_
              exact fr6.cons ((hFq.trans ((fr_store _ lM).trans (fr_store _ lM))).mono (L' := LM) (by unfold LM; omega)) ag2 (fun l h => h)
            clear hMq hFq hve Hfr6 HM fr6 ag2 z2'
            go_wp2
            refine ⟨⟨j + 1, by omega, by go_num, HZ.out⟩, ?_⟩
            simp [intOf]
            omega
      | 3, _ =>
        obtain rfl : K = 4 := by rw [← hK]; rfl
        clear hK
        obtain ⟨hIA, hIC, hGr, hMP, hz, h0, hB⟩ := HM.out
        have HS : Hid (Calls Yba.prog 14 #[.pointer (some ⟨M, 0, none⟩), .int .i64 (t : Int)] w5 fun e w' => e = .returned (.tuple #[]) ∧ MsPost σ1 w5 M mh (A.stop t) w') := mstop_in hMP hz hIA (by omega) ht
        have hIB := hIA.stop t
        obtain ⟨B, hBd⟩ : ∃ B, A.stop t = B := ⟨_, rfl⟩
        rw [hBd] at HS hIB
        have HIB := Hid.mk hIB
        have hMw : M < w5.heap.size := hMP.mc.lt
        clear hIA hIC hGr hMP hz h0 hB hIB
        go_upto_region 26 with (go_at_call 14; refine HS.out.mono ?_; rintro e w6 ⟨rfl, hPost⟩)
        obtain ⟨σ2, mq2, ag2, z2', MP6, fr6⟩ := hPost
        have lM := MP6.lab
        have xe := (MP6.mc.e t ht).1
        obtain ⟨a, c, hve, hkc, hcm⟩ := (MP6.es t ht).shape
        obtain ⟨kk, hkk⟩ : ∃ kk, (B.held t).length = kk := ⟨_, rfl⟩
        have hl1 : (ints (nats (B.held t))).length = kk := by simp [ints, nats, hkk]
        rw [hl1] at hve hkc
        have hk1 : (kk : Int) ≤ 1024 := by have := HIB.out.heldLen t; omega
        rw [hve] at xe
        have HMP6 : Hid (MP σ2 w6 M mq2 mh (B.back t ((B.held t).take 0))) := by
          have e : B.back t ((B.held t).take 0) = B := by simp [St.back]
          rw [e]
          exact MP6
        have Hfr6 := Hid.mk (And.intro fr6 (And.intro ag2 z2'))
        clear MP6 HS fr6 ag2 z2'
        go_upto_region 27 with fail
        clear xe
        go_loopw [167] (fun iv wq => ∃ i : Nat, i ≤ kk ∧ iv = .int .i64 (i : Int) ∧ MP σ2 wq M mq2 mh (B.back t ((B.held t).take i)) ∧ Fr σ2 (· = 6) w6 wq) (fun iv _ => kk - (intOf iv).toNat)
        case atStart => exact ⟨0, Nat.zero_le _, rfl, HMP6.out, Fr.refl _ _ _⟩
        case round =>
          obtain ⟨i, hik, rfl, hMq, hFq⟩ := hrel
          clear HMP6
          by_cases hil : i < kk
          · have y1 : (i : Int) < (kk : Int) := by omega
            have y0 : (0 : Int) ≤ (i : Int) := by omega
            have hjl : i < (B.held t).length := by omega
            obtain ⟨rj, hrj⟩ : ∃ rj, (B.held t)[i]? = some rj := ⟨_, List.getElem?_eq_getElem hjl⟩
            have hr3 : rj < 3 := HIB.out.held t rj (List.mem_of_getElem? hrj)
            obtain ⟨g, goff, gcap, cur, hv1, hok, hg, _, _, _, htk⟩ := (hMq.es t ht).pos (by intro e; have e2 := congrArg List.length e; simp [ints, nats, St.back] at e2; rw [e2] at hjl; simp at hjl)
            rw [hve] at hv1
            injection hv1 with ea eb ec
            subst ea
            clear eb ec
            have hcj : wr.cell? ⟨g, goff + i, none⟩ = some (.int .i64 (rj : Int)) := cell_in hg htk i _ (by simp [ints, nats, St.back, hrj])
            have q1 : (rj : Int) < 3 := by omega
            have q2 : (0 : Int) ≤ (rj : Int) := by omega
            have xh := (hMq.mc.h rj hr3 t ht).1
            have ph := (hMq.mc.h rj hr3 t ht).2
            have HN : Hid (MP σ2 (wr.setCell ⟨M, 18 + rj * 3 + t, none⟩ (.int .i64 0)) M mq2 mh (B.back t ((B.held t).take (i + 1))) ∧ Fr σ2 (· = 6) w6 (wr.setCell ⟨M, 18 + rj * 3 + t, none⟩ (.int .i64 0))) := by
              refine ⟨?_, hFq.trans (fr_store _ lM)⟩
              have e1 := hMq.upon (hMq.mc.setH hr3 ht 0) (grown_setCell _ _ _ _) rfl rfl
              have e2 := back_succ B t (B.held t) i rj hrj
              have e3 : B.back t ((B.held t).take (i + 1)) = { B.back t ((B.held t).take i) with hold := fun r' t' => if r' = rj ∧ t' = t then 0 else (B.back t ((B.held t).take i)).hold r' t' } := by
                have e4 : (B.back t ((B.held t).take (i + 1))).hold = fun r' t' => if r' = rj ∧ t' = t then 0 else (B.back t ((B.held t).take i)).hold r' t' := e2.symm
                rw [← e4]
                rfl
              rw [e3]
              exact e1
            clear hMq hFq hg htk hok hve hrj
            go_wp2
            refine ⟨⟨i + 1, by omega, by go_num, HN.out.1, HN.out.2⟩, ?_⟩
            simp [intOf]
            omega
          · have y1 : ¬ (i : Int) < (kk : Int) := by omega
            have etk : (B.held t).take i = B.held t := List.take_of_length_le (by omega)
            rw [etk] at hMq
            obtain ⟨fr6, ag2, z2'⟩ := Hfr6.out
            have xe := (hMq.mc.e t ht).1
            have pe := (hMq.mc.e t ht).2
            have xo := ((hMq.mc.on t ht).other M (27 + t) (.slice none 0 0) (.inr (by omega))).1
            have po := ((hMq.mc.on t ht).other M (27 + t) (.slice none 0 0) (.inr (by omega))).2
            have HZ : Hid (LI w G M (j + 1) ((wr.setCell ⟨M, 27 + t, none⟩ (.slice none 0 0)).setCell ⟨M, 30 + t, none⟩ (.bool false))) := by
              have eC : A.step 3 t r m = (B.back t (B.held t)).free t := by unfold St.step; rw [if_neg (by omega), if_neg (by omega), if_pos (by omega), hBd]
              have HM' := HM.out
              rw [eC] at HM'
              have hs6 := hFq.size
              refine li_end HM' (σ' := σ2) ag2 (fun b hb => z2' b (by simp at hb; omega)) (hMq.free ht) ?_
              exact fr6.cons ((hFq.trans ((fr_store _ lM).trans (fr_store _ lM))).mono (L' := LM) (by unfold LM; omega)) ag2 (fun l h => h)
            clear hMq hFq hve Hfr6 HM fr6 ag2 z2'
            go_wp2
            refine ⟨⟨j + 1, by omega, by go_num, HZ.out⟩, ?_⟩
            simp [intOf]
            omega
    · have z1 : ¬ (j : Int) < (len : Int) := by omega
      obtain ⟨Bh, Be, Bw, Bq, hv, has, bh, hasq, bq, qv, k1, k2, k3, k4, k5, hHH, hHQ⟩ := hGr
      have hAll : All σ wr G M Bh Be Bw Bq hv has bh hasq bq qv mq mh A := ⟨k1, k2, k3, k4, k5, hMP⟩
      have HAll := Hid.mk hAll
      have HEnd : Hid (∀ w', Grow σ wr w' → Below w.heap.size w w') := fun w' f => f.below hB h0 (fun h => h)
      have HInv : Hid (Inv 1024 A) := hIA.mono (by omega)
      have HH := Hid.mk hHH
      have HQ := Hid.mk hHQ
      have d4 := k1.n.1
      have d33 := hMP.mc.n.1
      clear k1 k2 k3 k4 k5 hMP hAll hB h0 hIA hHH hHQ hz
      obtain ⟨W, hW⟩ : ∃ W, W = wr := ⟨_, rfl⟩
      subst hW
      go_upto_region 34 with fail
      go_region_held3 (fun w' => w'.cell? ⟨G, 4, none⟩ = some (.int .i64 (A.waits : Int)) ∧ w'.cell? ⟨M, 33, none⟩ = some (.int .i64 (A.waits : Int))) (exact ⟨d4, d33⟩) (fail)
      rename_i hHd
      clear d4 d33 hHd
      go_upto_if 198 with fail
      go_cut [] from 190 to 198 (fun wx => Grow σ W wx)
      case first =>
        go_wp2
        go_meet
        case rel => exact Fr.drew _ _ _
      case rest =>
        rename_i hK
        exact hK _ _ (t2 HAll HInv HH HQ HEnd _ _ _ _ _ _ _ _ _ _ _ _ _ _ _ _ _ _ _ _ _ _ _ _ _ _ _ _ _ _ _ _ _ _ _ _ _ _ _ _ _ _ _ _ _ _ _ _ _ _ _ _ _ _ _ _ _ _ _ _ _ _ _ _ _ _ _ _ _ _ _ _ _ _ _ _ _ _ _ _ _ _ _ _ _ _ _ _ _ _ _ _ _ _ _ _ _ _ _ _ _ _ _ _ _ _ _ _ _ _ _ _ _ _ _ _ _ _ _ _ _ _ _ _ _ _ _ _ _ _ _ _ _ _ _ _ _ _ _ _ _ _ _ _ _ _ _ _ _ _ _ _ _ _ _ _ _ _ _ _ _ _ _ _ _ _ _ _ _ _ _ _ _ _ _ _ _ _ _ _ _ _ _ _ _ _ _ _ _ _ _ _ _ _ _ _ _ _ _ _ _ _ _ _ _ _ _ _ _ _ _ _ _ _ _ _ _ _ _ _ _ _ _ _ _ _ _ _ _ _ _ _ _ _ _ _ _ _ _ _ _ _ _ _ _ _ _ _ _ _ _ _ _ _ _ _ _ _ _ _ _ _ _ _ _ _ _ _ _ _ _ _ _ _ _ _ _ _ _ _ _ _ _ _ _ _ _ _ _ _ _ _ _ _ _ _ _ _ _ _ _ _ _ _ _ _ _ _ _ _ _ _ _ _ _ _ _ _ _ _ _ _ _ _ _ _ _ _ _ _ _ _ _ _ _ _ _ _ _ _ _ _ _ _ _ _ _ _ _ _ _ _ _ _ _ _ _ _ _ _ _ _ _ _ _ _ _ _ _ _ _ _ _ _ _ _ _ _ _ _ _ _ _ _ _ _ _ _ _ _ _ _ _ _ _ _ _ _ _ _ _ _ _ _ _ _ _ _ _ _ _ _ _ _ _ _ _ _ _ _ _ _ _ _ _ _ _ _ _ _ _ _ _ _ _ _ _ _ _ _ _ _ _ _ _ _ _ _ _ _ _ _ _ _ _ _ _ _ _ _ _ _ _ _ _ _ _ _ _ _ _ _ _ _ _ _ _ _ _ _ _ _ _ _ _ _ _ _ _ wc hcut)

end Go.Proofs.Ybulkatsw.Md
