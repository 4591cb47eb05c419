import Derived.Test.YbulkatswInner
import Derived.Laws.BitsAllLaws
namespace Go.Proofs.Ybulkatsw.Fo
open Go.RowKit
set_option linter.unusedVariables false

theorem item_kept {wa w1 : World} {B : Nat} {v : Value} {n k : Nat} {xs : List Value} {it : Array Value} (ho : wa.ownsRow B 23 1 v n xs) (hh : wa.heap[k]? = some (.cells it 112 (0, 0))) (o : Obj) (hg : (wa.alloc o).grownBy w1 v.ownBlock) :
    w1.heap[k]? = some (.cells it 112 (0, 0)) := by
  have hlt := heap_lt hh
  rw [hg.block k (by simp; omega) ?_, Below.heap_alloc _ _ _ hlt]
  · exact hh
  · intro e
    obtain ⟨c, hc⟩ := own_blk ho e.symm
    rw [hh] at hc
    injection hc with hc
    injection hc with _ hc
    exact absurd hc (by decide)

theorem info115 : (Yba.prog.info? 115).map (fun i => (i.zero, i.size, i.bytes)) = some (some (.agg #[.pointer none, .map none]), 2, 16) := by kernel_rfl

set_option maxRecDepth 20000 in
set_option maxHeartbeats 1600000 in
theorem build_any (a : Option Addr) (n c : Nat) (W : Nat → Bool) (L D : Nat → UInt8) (w : World) (h1024 : n ≤ 1024) (hit : Items w a n W L D) :
    Calls Yba.prog 6 #[.slice a n c] w fun e w' => ∃ lv ev, e = .returned (.tuple #[.pointer (some ⟨w.heap.size + 1, 0, none⟩), lv, ev]) ∧ ∃ es, Built w w' lv ev n es := by
  have HI : Hid (Items w a n W L D) := hit
  clear hit
  go_enter Yba.func6, Yba.ntmps6
  go_wp2
  go_loopw [7, 8, 9] (fun lv ev i wr => ∃ k : Nat, k ≤ n ∧ i = .int .i64 k ∧ ∃ es, Built w wr lv ev k es) (fun _ _ i _ => n - (intOf i).toNat)
  case atStart => exact ⟨0, Nat.zero_le _, rfl, [], built_start _ _ _ _ _⟩
  case round =>
    obtain ⟨k, hk, rfl, es, hB⟩ := hrel
    by_cases hlt : k < n
    · obtain ⟨hel, hlo, heo, hreq, hnx, hsz, hq, ho⟩ := hB
      rcases HI.out with h0 | ⟨ig, io, rfl, hc⟩
      · omega
      obtain ⟨c0, c1, c2⟩ := hc k hlt
      have d0 : wr.cell? ⟨ig, io + k * 3, none⟩ = some (.bool (W k)) := (hnx.cell (p := ⟨ig, io + k * 3, none⟩) (cell_block c0)).trans c0
      have d1 : wr.cell? ⟨ig, io + k * 3 + 1, none⟩ = some (.int .u8 ((L k).toNat : Int)) := (hnx.cell (p := ⟨ig, io + k * 3 + 1, none⟩) (cell_block c1)).trans c1
      have d2 : wr.cell? ⟨ig, io + k * 3 + 2, none⟩ = some (.int .u8 ((D k).toNat : Int)) := (hnx.cell (p := ⟨ig, io + k * 3 + 2, none⟩) (cell_block c2)).trans c2
      clear hc c0 c1 c2
      have q1 : (k : Int) < (n : Int) := by omega
      have HB : Hid (Built w wr u7 u8 k es) := ⟨hel, hlo, heo, hreq, hnx, hsz, hq, ho⟩
      clear hel hlo heo hreq hnx hsz hq ho
      by_cases hdup : 0 < k ∧ (D k).toNat % 4 = 3
      · obtain ⟨hk0, hd3⟩ := hdup
        have q2 : (0 : Int) < (k : Int) := by omega
        have hD := (D k).toNat_lt
        have q3 : (((D k).toNat : Int) % 4 == 3) = true := by simp; omega
        have hB := HB.out
        obtain ⟨lg, lc, el⟩ := own_shape hB.2.1 hk0
        obtain ⟨eg, ec, ee⟩ := own_shape hB.2.2.1 hk0
        subst el
        subst ee
        obtain ⟨j, hj, hjk⟩ : ∃ j : Nat, ((D k).toNat : Int) / 4 % (k : Int) = (j : Int) ∧ j < k := ⟨(D k).toNat / 4 % k, by simp, Nat.mod_lt _ hk0⟩
        have hje : j < es.length := by rw [hB.1]; exact hjk
        obtain ⟨p, b, hpb⟩ : ∃ p b, es[j] = (p, b) := ⟨_, _, rfl⟩
        have cl : ∀ o, (wr.alloc o).cell? ⟨lg, j, none⟩ = some (.pointer (some ⟨p, 0, none⟩)) := fun o => by
          rw [(hB.2.1.alloc o).cellAt j (by omega)]
          simp [ptrs, hje, hpb]
        have hreq := hB.2.2.2.1 es[j] (List.getElem_mem hje)
        rw [hpb] at hreq
        have HREQ : Hid (ReqOk wr (w.heap.size + 1) p b) := hreq
        have HPB : Hid (es[j]? = some (p, b)) := by rw [List.getElem?_eq_getElem hje, hpb]; rfl
        have q4 : (j : Int) < (k : Int) := by omega
        have hsz := hB.2.2.2.2.2.1
        clear hB hreq hpb hd3
        obtain ⟨i0, hi, hz0, hz1, hz2⟩ := info_parts info23
        obtain ⟨i4, hi4, hy0, hy1, hy2⟩ := info_parts info4
        go_wp2_with (at_builtin; refine wpList_append_own _ rfl (.tmp 64) (.tmp 69) 25 (by rfl) w.heap.size 23 i0 (.pointer none) 1 8 Yba.underlying25 hi hz0 hz1 hz2 rfl (by decide) _ k (ptrs (es.map (·.1))) (by rfl) ((HB.out.2.1.alloc _).alloc _) ⟨wr.heap.size + 1, 0, none⟩ 1 1 [.pointer (some ⟨p, 0, none⟩)] (by rfl) rfl (news1 _ _ _ _) (one_ptr _) ?c3 ?c4 ?c5 ?_)
        case c3 => unfold maxLen; omega
        case c4 => omega
        case c5 => first | omega | (simp; omega)
        intro lv' w1 hown1 hgrow1 _
        have hBa := HB.out.below (wa := wr.alloc (.cells #[.bool (W k), .int .u8 ((L k).toNat : Int), .int .u8 ((D k).toNat : Int)] 112)) ((Below.refl _ _).alloc (Nat.le_refl _) _)
        have E1 := hBa.exp1 _ hgrow1
        have cE : w1.cell? ⟨eg, j, none⟩ = some (.bool b) := by
          rw [E1.cellAt j (by omega)]
          simp [HPB.out]
        have hs1 : w.heap.size + 4 ≤ w1.heap.size := by have := hgrow1.size; simp at this; omega
        have HE1 : Hid (w1.ownsRow w.heap.size 4 1 (.slice (some ⟨eg, 0, none⟩) k ec) k (es.map fun p => .bool p.2)) := E1
        have HBA : Hid (Built w (wr.alloc (.cells #[.bool (W k), .int .u8 ((L k).toNat : Int), .int .u8 ((D k).toNat : Int)] 112)) (.slice (some ⟨lg, 0, none⟩) k lc) (.slice (some ⟨eg, 0, none⟩) k ec) k es) := hBa
        have HO1 : Hid (w1.ownsRow w.heap.size 23 1 lv' (k + 1) (ptrs (es.map (·.1)) ++ [.pointer (some ⟨p, 0, none⟩)])) := hown1
        have HG1 := Hid.mk hgrow1
        clear E1 hBa hown1 hgrow1 cl HB
        go_wp2_with (at_builtin; refine wpList_append_own _ rfl (.tmp 71) (.tmp 76) 26 (by rfl) w.heap.size 4 i4 (.bool false) 1 1 Yba.underlying26 hi4 hy0 hy1 hy2 rfl (by decide) _ k (es.map fun p => .bool p.2) (by rfl) (HE1.out.alloc _) ⟨w1.heap.size, 0, none⟩ 1 1 [.bool b] (by rfl) rfl (cell_one_new _ _ _) (one_bool _) ?e3 ?e4 ?e5 ?_)
        case e3 => unfold maxLen; omega
        case e4 => omega
        case e5 => first | omega | (simp; omega)
        intro ev' w2 hown2 hgrow2 _
        have R := HBA.out.push (HREQ.out.keep (KeepsT.below ((Below.refl _ _).alloc (Nat.le_refl _) _))) _ _ HO1.out HG1.out hown2 hgrow2
        have HR : Hid (Built w w2 lv' ev' (k + 1) (es ++ [(p, b)])) := R
        clear hown2 hgrow2 R HBA HO1 HG1 HE1
        go_wp2
        go_roundw
        case rel => exact ⟨k + 1, by omega, by go_num, _, HR.out⟩
        case measure => simp [intOf]; omega
      · have hD := (D k).toNat_lt
        have hL := (L k).toNat_lt
        have hsz := HB.out.2.2.2.2.2.1
        obtain ⟨nn, hnn, hn3⟩ : ∃ nn : Nat, bits .and .u8 ((L k).toNat : Int) 3 = (nn : Int) ∧ nn ≤ 3 := ⟨(L k).toNat &&& 3, by rw [u8_and _ _ (by omega) (by omega) (by omega) (by omega)]; simp, Nat.and_le_right⟩
        rcases (show k ≤ 0 ∨ (0 < k ∧ ¬ (D k).toNat % 4 = 3) from by omega) with hk0 | ⟨hk0, hd3⟩
        · have q2 : decide ((0 : Int) < (k : Int)) = false := by simp; omega
          have q2' : ¬ (0 : Int) < (k : Int) := by omega
          cases hW : W k
          · rw [hW] at d0
            cases hE : (((L k).toNat : Int) % 2 == 0)
            · go_wp2_with fail
              obtain ⟨wo, rfl⟩ : ∃ wo : World, wo = wr := ⟨_, rfl⟩
              go_loopw [15, 16] (fun hit i wi => ∃ m : Nat, m ≤ nn ∧ i = .int .i64 m ∧ ∃ lv ps, Inner w.heap.size wo wi #[.bool false, .int .u8 ((L k).toNat : Int), .int .u8 ((D k).toNat : Int)] none m hit lv ps) (fun _ i _ => nn - (intOf i).toNat)
              case atStart => exact ⟨0, Nat.zero_le _, rfl, _, _, inner_start _ _ _ _⟩
              case round =>
                obtain ⟨m, hm, rfl, lv, ps, hI⟩ := hrel
                by_cases hmn : m < nn
                · have q5 : (m : Int) < (nn : Int) := by omega
                  have cI : wr.cell? ⟨wo.heap.size, 1, none⟩ = some (.int .u8 ((L k).toNat : Int)) := by rw [cell_of_blk hI.2.2.2.2.2.2.1]; rfl
                  have cR : wr.cell? ⟨wo.heap.size + 1 + 1, 6, none⟩ = some lv := by rw [cell_of_blk hI.2.2.2.1]; rfl
                  have hs9 := hI.2.2.2.2.2.2.2.2
                  have hu := hI.2.1
                  subst hu
                  obtain ⟨hv, hhv⟩ : ∃ hv, hv = ps.any (· == w.heap.size + 1) := ⟨_, rfl⟩
                  rw [← hhv]
                  have HHV := Hid.mk hhv
                  have HI2 := Hid.mk hI
                  obtain ⟨i5, hi5, hx0, hx1, hx2⟩ := info_parts info115
                  clear hI d0 d1 d2 hhv
                  cases hbit : (bits .and .u8 (((L k).toNat : Int) / 2 ^ (2 + m)) 1 == 1)
                  · have hbit' : (bits .and .u8 (((L k).toNat : Int) / 2 ^ (2 + m)) 1 == 1) = false := hbit
                    go_wp2_with (at_builtin; refine wpList_append_lies _ rfl (.tmp 120) (.tmp 123) 105 (by rfl) (wo.heap.size + 3) 115 i5 (.agg #[.pointer none, .map none]) 2 16 Yba.underlying105 hi5 hx0 hx1 hx2 rfl (by decide) lv m (leaderCells ps) (by rfl) (HI2.out.2.2.2.2.1.alloc _) ⟨wr.heap.size, 0, none⟩ 1 1 [.pointer (some ⟨w.heap.size + 1 + 1 + 1, 0, none⟩), .map none] (by rfl) rfl (World.news_of_block (heap_alloc_new _ _)) (leaderCells_one _) (by decide) ?c3 ?c4 ?c5 (wr.heap.size + 1) (by simp) ?_)
                    case c3 => unfold maxLen; omega
                    case c4 => omega
                    case c5 => first | omega | (simp; omega)
                    intro g cap w1 hown1 hgrow1 _ _
                    have hk := HI2.out.grown _ hgrow1
                    have h1R := (hk (wo.heap.size + 1 + 1) (by omega)).trans HI2.out.2.2.2.1
                    have c1R : w1.cell? ⟨wo.heap.size + 1 + 1, 6, none⟩ = some lv := by rw [cell_of_blk h1R]; rfl
                    have f1R : w1.frozen? ⟨wo.heap.size + 1 + 1, 6, none⟩ = false := by simp [World.frozen?, h1R]
                    have R := HI2.out.step _ hgrow1 (w.heap.size + 1 + 1 + 1) g cap (.inr rfl) hown1 (.bool hv) (by rw [← HHV.out]; simp)
                    have HR := Hid.mk R
                    clear hown1 hgrow1 R hk h1R cI cR HI2
                    go_wp2
                    go_roundw
                    case rel => exact ⟨m + 1, by omega, by go_num, _, _, HR.out⟩
                    case measure => simp [intOf]; omega
                  · have hbit' : (bits .and .u8 (((L k).toNat : Int) / 2 ^ (2 + m)) 1 == 1) = true := hbit
                    go_wp2_with (at_builtin; refine wpList_append_lies _ rfl (.tmp 120) (.tmp 123) 105 (by rfl) (wo.heap.size + 3) 115 i5 (.agg #[.pointer none, .map none]) 2 16 Yba.underlying105 hi5 hx0 hx1 hx2 rfl (by decide) lv m (leaderCells ps) (by rfl) (HI2.out.2.2.2.2.1.alloc _) ⟨wr.heap.size, 0, none⟩ 1 1 [.pointer (some ⟨w.heap.size + 1, 0, none⟩), .map none] (by rfl) rfl (World.news_of_block (heap_alloc_new _ _)) (leaderCells_one _) (by decide) ?c3 ?c4 ?c5 (wr.heap.size + 1) (by simp) ?_)
                    case c3 => unfold maxLen; omega
                    case c4 => omega
                    case c5 => first | omega | (simp; omega)
                    intro g cap w1 hown1 hgrow1 _ _
                    have hk := HI2.out.grown _ hgrow1
                    have h1R := (hk (wo.heap.size + 1 + 1) (by omega)).trans HI2.out.2.2.2.1
                    have c1R : w1.cell? ⟨wo.heap.size + 1 + 1, 6, none⟩ = some lv := by rw [cell_of_blk h1R]; rfl
                    have f1R : w1.frozen? ⟨wo.heap.size + 1 + 1, 6, none⟩ = false := by simp [World.frozen?, h1R]
                    have R := HI2.out.step _ hgrow1 (w.heap.size + 1) g cap (.inl rfl) hown1 (.bool true) (by simp)
                    have HR := Hid.mk R
                    clear hown1 hgrow1 R hk h1R cI cR HI2
                    go_wp2
                    go_roundw
                    case rel => exact ⟨m + 1, by omega, by go_num, _, _, HR.out⟩
                    case measure => simp [intOf]; omega
                · have q5 : ¬ (m : Int) < (nn : Int) := by omega
                  have hs9 := hI.2.2.2.2.2.2.2.2
                  have hu := hI.2.1
                  subst hu
                  obtain ⟨hv, hhv⟩ : ∃ hv, hv = ps.any (· == w.heap.size + 1) := ⟨_, rfl⟩
                  rw [← hhv]
                  have cI0 : wr.cell? ⟨wo.heap.size, 0, none⟩ = some (.bool false) := by rw [cell_of_blk hI.2.2.2.2.2.2.1]; rfl
                  have hBa := HB.out.below hI.2.2.2.2.2.2.2.1
                  have hreq := hI.req (by omega) false (.inl rfl) (by simp) HB.out.2.2.2.2.2.2.1 HB.out.2.2.2.2.2.2.2
                  have hIB := hI.2.2.2.2.2.2.1
                  have HBA := Hid.mk hBa
                  have HREQ := Hid.mk hreq
                  have HIB := Hid.mk hIB
                  have hsw := hBa.2.2.2.2.2.1
                  obtain ⟨i0, hi, hz0, hz1, hz2⟩ := info_parts info23
                  obtain ⟨i4, hi4, hy0, hy1, hy2⟩ := info_parts info4
                  clear hBa hreq hIB hI hhv d0 d1 d2 cI0
                  go_wp2_with (at_builtin; refine wpList_append_own _ rfl (.tmp 127) (.tmp 129) 25 (by rfl) w.heap.size 23 i0 (.pointer none) 1 8 Yba.underlying25 hi hz0 hz1 hz2 rfl (by decide) _ k (ptrs (es.map (·.1))) (by rfl) (HBA.out.2.1.alloc _) ⟨wr.heap.size, 0, none⟩ 1 1 [.pointer (some ⟨wo.heap.size + 1 + 1, 0, none⟩)] (by rfl) rfl (cell_one_new _ _ _) (one_ptr _) ?c3 ?c4 ?c5 ?_)
                  case c3 => unfold maxLen; omega
                  case c4 => omega
                  case c5 => first | omega | (simp; omega)
                  intro lv' w1 hown1 hgrow1 _
                  have E1 := HBA.out.exp1 _ hgrow1
                  have hI1 := item_kept HBA.out.2.1 HIB.out _ hgrow1
                  have cW : w1.cell? ⟨wo.heap.size, 0, none⟩ = some (.bool false) := by rw [cell_of_blk hI1]; rfl
                  have hs1 : w.heap.size + 4 ≤ w1.heap.size := by have := hgrow1.size; simp at this; omega
                  have HE1 := Hid.mk E1
                  have HO1 := Hid.mk hown1
                  have HG1 := Hid.mk hgrow1
                  clear E1 hown1 hgrow1 hI1
                  go_wp2_with (at_builtin; refine wpList_append_own _ rfl (.tmp 131) (.tmp 137) 26 (by rfl) w.heap.size 4 i4 (.bool false) 1 1 Yba.underlying26 hi4 hy0 hy1 hy2 rfl (by decide) _ k (es.map fun p => .bool p.2) (by rfl) (HE1.out.alloc _) ⟨w1.heap.size, 0, none⟩ 1 1 [.bool false] (by rfl) rfl (cell_one_new _ _ _) (one_bool _) ?e3 ?e4 ?e5 ?_)
                  case e3 => unfold maxLen; omega
                  case e4 => omega
                  case e5 => first | omega | (simp; omega)
                  intro ev' w2 hown2 hgrow2 _
                  have R := HBA.out.push HREQ.out _ _ HO1.out HG1.out hown2 hgrow2
                  have HR := Hid.mk R
                  clear hown2 hgrow2 R HBA HO1 HG1 HE1
                  go_wp2
                  go_roundw
                  case rel => exact ⟨k + 1, by omega, by go_num, _, HR.out⟩
                  case measure => simp [intOf]; omega
            · go_wp2_with fail
              obtain ⟨wo, rfl⟩ : ∃ wo : World, wo = wr := ⟨_, rfl⟩
              go_loopw [15, 16] (fun hit i wi => ∃ m : Nat, m ≤ nn ∧ i = .int .i64 m ∧ ∃ lv ps, Inner w.heap.size wo wi #[.bool false, .int .u8 ((L k).toNat : Int), .int .u8 ((D k).toNat : Int)] (some ⟨w.heap.size + 1 + 1 + 1, 0, none⟩) m hit lv ps) (fun _ i _ => nn - (intOf i).toNat)
              case atStart => exact ⟨0, Nat.zero_le _, rfl, _, _, inner_start _ _ _ _⟩
              case round =>
                obtain ⟨m, hm, rfl, lv, ps, hI⟩ := hrel
                by_cases hmn : m < nn
                · have q5 : (m : Int) < (nn : Int) := by omega
                  have cI : wr.cell? ⟨wo.heap.size, 1, none⟩ = some (.int .u8 ((L k).toNat : Int)) := by rw [cell_of_blk hI.2.2.2.2.2.2.1]; rfl
                  have cR : wr.cell? ⟨wo.heap.size + 1 + 1, 6, none⟩ = some lv := by rw [cell_of_blk hI.2.2.2.1]; rfl
                  have hs9 := hI.2.2.2.2.2.2.2.2
                  have hu := hI.2.1
                  subst hu
                  obtain ⟨hv, hhv⟩ : ∃ hv, hv = ps.any (· == w.heap.size + 1) := ⟨_, rfl⟩
                  rw [← hhv]
                  have HHV := Hid.mk hhv
                  have HI2 := Hid.mk hI
                  obtain ⟨i5, hi5, hx0, hx1, hx2⟩ := info_parts info115
                  clear hI d0 d1 d2 hhv
                  cases hbit : (bits .and .u8 (((L k).toNat : Int) / 2 ^ (2 + m)) 1 == 1)
                  · have hbit' : (bits .and .u8 (((L k).toNat : Int) / 2 ^ (2 + m)) 1 == 1) = false := hbit
                    go_wp2_with (at_builtin; refine wpList_append_lies _ rfl (.tmp 120) (.tmp 123) 105 (by rfl) (wo.heap.size + 3) 115 i5 (.agg #[.pointer none, .map none]) 2 16 Yba.underlying105 hi5 hx0 hx1 hx2 rfl (by decide) lv m (leaderCells ps) (by rfl) (HI2.out.2.2.2.2.1.alloc _) ⟨wr.heap.size, 0, none⟩ 1 1 [.pointer (some ⟨w.heap.size + 1 + 1 + 1, 0, none⟩), .map none] (by rfl) rfl (World.news_of_block (heap_alloc_new _ _)) (leaderCells_one _) (by decide) ?c3 ?c4 ?c5 (wr.heap.size + 1) (by simp) ?_)
                    case c3 => unfold maxLen; omega
                    case c4 => omega
                    case c5 => first | omega | (simp; omega)
                    intro g cap w1 hown1 hgrow1 _ _
                    have hk := HI2.out.grown _ hgrow1
                    have h1R := (hk (wo.heap.size + 1 + 1) (by omega)).trans HI2.out.2.2.2.1
                    have c1R : w1.cell? ⟨wo.heap.size + 1 + 1, 6, none⟩ = some lv := by rw [cell_of_blk h1R]; rfl
                    have f1R : w1.frozen? ⟨wo.heap.size + 1 + 1, 6, none⟩ = false := by simp [World.frozen?, h1R]
                    have R := HI2.out.step _ hgrow1 (w.heap.size + 1 + 1 + 1) g cap (.inr rfl) hown1 (.bool hv) (by rw [← HHV.out]; simp)
                    have HR := Hid.mk R
                    clear hown1 hgrow1 R hk h1R cI cR HI2
                    go_wp2
                    go_roundw
                    case rel => exact ⟨m + 1, by omega, by go_num, _, _, HR.out⟩
                    case measure => simp [intOf]; omega
                  · have hbit' : (bits .and .u8 (((L k).toNat : Int) / 2 ^ (2 + m)) 1 == 1) = true := hbit
                    go_wp2_with (at_builtin; refine wpList_append_lies _ rfl (.tmp 120) (.tmp 123) 105 (by rfl) (wo.heap.size + 3) 115 i5 (.agg #[.pointer none, .map none]) 2 16 Yba.underlying105 hi5 hx0 hx1 hx2 rfl (by decide) lv m (leaderCells ps) (by rfl) (HI2.out.2.2.2.2.1.alloc _) ⟨wr.heap.size, 0, none⟩ 1 1 [.pointer (some ⟨w.heap.size + 1, 0, none⟩), .map none] (by rfl) rfl (World.news_of_block (heap_alloc_new _ _)) (leaderCells_one _) (by decide) ?c3 ?c4 ?c5 (wr.heap.size + 1) (by simp) ?_)
                    case c3 => unfold maxLen; omega
                    case c4 => omega
                    case c5 => first | omega | (simp; omega)
                    intro g cap w1 hown1 hgrow1 _ _
                    have hk := HI2.out.grown _ hgrow1
                    have h1R := (hk (wo.heap.size + 1 + 1) (by omega)).trans HI2.out.2.2.2.1
                    have c1R : w1.cell? ⟨wo.heap.size + 1 + 1, 6, none⟩ = some lv := by rw [cell_of_blk h1R]; rfl
                    have f1R : w1.frozen? ⟨wo.heap.size + 1 + 1, 6, none⟩ = false := by simp [World.frozen?, h1R]
                    have R := HI2.out.step _ hgrow1 (w.heap.size + 1) g cap (.inl rfl) hown1 (.bool true) (by simp)
                    have HR := Hid.mk R
                    clear hown1 hgrow1 R hk h1R cI cR HI2
                    go_wp2
                    go_roundw
                    case rel => exact ⟨m + 1, by omega, by go_num, _, _, HR.out⟩
                    case measure => simp [intOf]; omega
                · have q5 : ¬ (m : Int) < (nn : Int) := by omega
                  have hs9 := hI.2.2.2.2.2.2.2.2
                  have hu := hI.2.1
                  subst hu
                  obtain ⟨hv, hhv⟩ : ∃ hv, hv = ps.any (· == w.heap.size + 1) := ⟨_, rfl⟩
                  rw [← hhv]
                  have cI0 : wr.cell? ⟨wo.heap.size, 0, none⟩ = some (.bool false) := by rw [cell_of_blk hI.2.2.2.2.2.2.1]; rfl
                  have hBa := HB.out.below hI.2.2.2.2.2.2.2.1
                  have hso := HB.out.2.2.2.2.2.1
                  have hreq := hI.req (by omega) false (.inr (.inr rfl)) (by simp <;> omega) HB.out.2.2.2.2.2.2.1 HB.out.2.2.2.2.2.2.2
                  have hIB := hI.2.2.2.2.2.2.1
                  have HBA := Hid.mk hBa
                  have HREQ := Hid.mk hreq
                  have HIB := Hid.mk hIB
                  have hsw := hBa.2.2.2.2.2.1
                  obtain ⟨i0, hi, hz0, hz1, hz2⟩ := info_parts info23
                  obtain ⟨i4, hi4, hy0, hy1, hy2⟩ := info_parts info4
                  clear hBa hreq hIB hI hhv d0 d1 d2 cI0
                  go_wp2_with (at_builtin; refine wpList_append_own _ rfl (.tmp 127) (.tmp 129) 25 (by rfl) w.heap.size 23 i0 (.pointer none) 1 8 Yba.underlying25 hi hz0 hz1 hz2 rfl (by decide) _ k (ptrs (es.map (·.1))) (by rfl) (HBA.out.2.1.alloc _) ⟨wr.heap.size, 0, none⟩ 1 1 [.pointer (some ⟨wo.heap.size + 1 + 1, 0, none⟩)] (by rfl) rfl (cell_one_new _ _ _) (one_ptr _) ?c3 ?c4 ?c5 ?_)
                  case c3 => unfold maxLen; omega
                  case c4 => omega
                  case c5 => first | omega | (simp; omega)
                  intro lv' w1 hown1 hgrow1 _
                  have E1 := HBA.out.exp1 _ hgrow1
                  have hI1 := item_kept HBA.out.2.1 HIB.out _ hgrow1
                  have cW : w1.cell? ⟨wo.heap.size, 0, none⟩ = some (.bool false) := by rw [cell_of_blk hI1]; rfl
                  have hs1 : w.heap.size + 4 ≤ w1.heap.size := by have := hgrow1.size; simp at this; omega
                  have HE1 := Hid.mk E1
                  have HO1 := Hid.mk hown1
                  have HG1 := Hid.mk hgrow1
                  clear E1 hown1 hgrow1 hI1
                  go_wp2_with (at_builtin; refine wpList_append_own _ rfl (.tmp 131) (.tmp 137) 26 (by rfl) w.heap.size 4 i4 (.bool false) 1 1 Yba.underlying26 hi4 hy0 hy1 hy2 rfl (by decide) _ k (es.map fun p => .bool p.2) (by rfl) (HE1.out.alloc _) ⟨w1.heap.size, 0, none⟩ 1 1 [.bool false] (by rfl) rfl (cell_one_new _ _ _) (one_bool _) ?e3 ?e4 ?e5 ?_)
                  case e3 => unfold maxLen; omega
                  case e4 => omega
                  case e5 => first | omega | (simp; omega)
                  intro ev' w2 hown2 hgrow2 _
                  have R := HBA.out.push HREQ.out _ _ HO1.out HG1.out hown2 hgrow2
                  have HR := Hid.mk R
                  clear hown2 hgrow2 R HBA HO1 HG1 HE1
                  go_wp2
                  go_roundw
                  case rel => exact ⟨k + 1, by omega, by go_num, _, HR.out⟩
                  case measure => simp [intOf]; omega
          · rw [hW] at d0
            go_wp2_with fail
            obtain ⟨wo, rfl⟩ : ∃ wo : World, wo = wr := ⟨_, rfl⟩
            go_loopw [15, 16] (fun hit i wi => ∃ m : Nat, m ≤ nn ∧ i = .int .i64 m ∧ ∃ lv ps, Inner w.heap.size wo wi #[.bool true, .int .u8 ((L k).toNat : Int), .int .u8 ((D k).toNat : Int)] (some ⟨wo.heap.size + 1 + 1, 0, none⟩) m hit lv ps) (fun _ i _ => nn - (intOf i).toNat)
            case atStart => exact ⟨0, Nat.zero_le _, rfl, _, _, inner_start _ _ _ _⟩
            case round =>
              obtain ⟨m, hm, rfl, lv, ps, hI⟩ := hrel
              by_cases hmn : m < nn
              · have q5 : (m : Int) < (nn : Int) := by omega
                have cI : wr.cell? ⟨wo.heap.size, 1, none⟩ = some (.int .u8 ((L k).toNat : Int)) := by rw [cell_of_blk hI.2.2.2.2.2.2.1]; rfl
                have cR : wr.cell? ⟨wo.heap.size + 1 + 1, 6, none⟩ = some lv := by rw [cell_of_blk hI.2.2.2.1]; rfl
                have hs9 := hI.2.2.2.2.2.2.2.2
                have hu := hI.2.1
                subst hu
                obtain ⟨hv, hhv⟩ : ∃ hv, hv = ps.any (· == w.heap.size + 1) := ⟨_, rfl⟩
                rw [← hhv]
                have HHV := Hid.mk hhv
                have HI2 := Hid.mk hI
                obtain ⟨i5, hi5, hx0, hx1, hx2⟩ := info_parts info115
                clear hI d0 d1 d2 hhv
                cases hbit : (bits .and .u8 (((L k).toNat : Int) / 2 ^ (2 + m)) 1 == 1)
                · have hbit' : (bits .and .u8 (((L k).toNat : Int) / 2 ^ (2 + m)) 1 == 1) = false := hbit
                  go_wp2_with (at_builtin; refine wpList_append_lies _ rfl (.tmp 120) (.tmp 123) 105 (by rfl) (wo.heap.size + 3) 115 i5 (.agg #[.pointer none, .map none]) 2 16 Yba.underlying105 hi5 hx0 hx1 hx2 rfl (by decide) lv m (leaderCells ps) (by rfl) (HI2.out.2.2.2.2.1.alloc _) ⟨wr.heap.size, 0, none⟩ 1 1 [.pointer (some ⟨w.heap.size + 1 + 1 + 1, 0, none⟩), .map none] (by rfl) rfl (World.news_of_block (heap_alloc_new _ _)) (leaderCells_one _) (by decide) ?c3 ?c4 ?c5 (wr.heap.size + 1) (by simp) ?_)
                  case c3 => unfold maxLen; omega
                  case c4 => omega
                  case c5 => first | omega | (simp; omega)
                  intro g cap w1 hown1 hgrow1 _ _
                  have hk := HI2.out.grown _ hgrow1
                  have h1R := (hk (wo.heap.size + 1 + 1) (by omega)).trans HI2.out.2.2.2.1
                  have c1R : w1.cell? ⟨wo.heap.size + 1 + 1, 6, none⟩ = some lv := by rw [cell_of_blk h1R]; rfl
                  have f1R : w1.frozen? ⟨wo.heap.size + 1 + 1, 6, none⟩ = false := by simp [World.frozen?, h1R]
                  have R := HI2.out.step _ hgrow1 (w.heap.size + 1 + 1 + 1) g cap (.inr rfl) hown1 (.bool hv) (by rw [← HHV.out]; simp)
                  have HR := Hid.mk R
                  clear hown1 hgrow1 R hk h1R cI cR HI2
                  go_wp2
                  go_roundw
                  case rel => exact ⟨m + 1, by omega, by go_num, _, _, HR.out⟩
                  case measure => simp [intOf]; omega
                · have hbit' : (bits .and .u8 (((L k).toNat : Int) / 2 ^ (2 + m)) 1 == 1) = true := hbit
                  go_wp2_with (at_builtin; refine wpList_append_lies _ rfl (.tmp 120) (.tmp 123) 105 (by rfl) (wo.heap.size + 3) 115 i5 (.agg #[.pointer none, .map none]) 2 16 Yba.underlying105 hi5 hx0 hx1 hx2 rfl (by decide) lv m (leaderCells ps) (by rfl) (HI2.out.2.2.2.2.1.alloc _) ⟨wr.heap.size, 0, none⟩ 1 1 [.pointer (some ⟨w.heap.size + 1, 0, none⟩), .map none] (by rfl) rfl (World.news_of_block (heap_alloc_new _ _)) (leaderCells_one _) (by decide) ?c3 ?c4 ?c5 (wr.heap.size + 1) (by simp) ?_)
                  case c3 => unfold maxLen; omega
                  case c4 => omega
                  case c5 => first | omega | (simp; omega)
                  intro g cap w1 hown1 hgrow1 _ _
                  have hk := HI2.out.grown _ hgrow1
                  have h1R := (hk (wo.heap.size + 1 + 1) (by omega)).trans HI2.out.2.2.2.1
                  have c1R : w1.cell? ⟨wo.heap.size + 1 + 1, 6, none⟩ = some lv := by rw [cell_of_blk h1R]; rfl
                  have f1R : w1.frozen? ⟨wo.heap.size + 1 + 1, 6, none⟩ = false := by simp [World.frozen?, h1R]
                  have R := HI2.out.step _ hgrow1 (w.heap.size + 1) g cap (.inl rfl) hown1 (.bool true) (by simp)
                  have HR := Hid.mk R
                  clear hown1 hgrow1 R hk h1R cI cR HI2
                  go_wp2
                  go_roundw
                  case rel => exact ⟨m + 1, by omega, by go_num, _, _, HR.out⟩
                  case measure => simp [intOf]; omega
              · have q5 : ¬ (m : Int) < (nn : Int) := by omega
                have hs9 := hI.2.2.2.2.2.2.2.2
                have hu := hI.2.1
                subst hu
                obtain ⟨hv, hhv⟩ : ∃ hv, hv = ps.any (· == w.heap.size + 1) := ⟨_, rfl⟩
                rw [← hhv]
                have cI0 : wr.cell? ⟨wo.heap.size, 0, none⟩ = some (.bool true) := by rw [cell_of_blk hI.2.2.2.2.2.2.1]; rfl
                have hBa := HB.out.below hI.2.2.2.2.2.2.2.1
                have hreq := hI.req (by omega) hv (.inr (.inl rfl)) (by rw [hhv]; simp) HB.out.2.2.2.2.2.2.1 HB.out.2.2.2.2.2.2.2
                have hIB := hI.2.2.2.2.2.2.1
                have HBA := Hid.mk hBa
                have HREQ := Hid.mk hreq
                have HIB := Hid.mk hIB
                have hsw := hBa.2.2.2.2.2.1
                obtain ⟨i0, hi, hz0, hz1, hz2⟩ := info_parts info23
                obtain ⟨i4, hi4, hy0, hy1, hy2⟩ := info_parts info4
                clear hBa hreq hIB hI hhv d0 d1 d2 cI0
                go_wp2_with (at_builtin; refine wpList_append_own _ rfl (.tmp 127) (.tmp 129) 25 (by rfl) w.heap.size 23 i0 (.pointer none) 1 8 Yba.underlying25 hi hz0 hz1 hz2 rfl (by decide) _ k (ptrs (es.map (·.1))) (by rfl) (HBA.out.2.1.alloc _) ⟨wr.heap.size, 0, none⟩ 1 1 [.pointer (some ⟨wo.heap.size + 1 + 1, 0, none⟩)] (by rfl) rfl (cell_one_new _ _ _) (one_ptr _) ?c3 ?c4 ?c5 ?_)
                case c3 => unfold maxLen; omega
                case c4 => omega
                case c5 => first | omega | (simp; omega)
                intro lv' w1 hown1 hgrow1 _
                have E1 := HBA.out.exp1 _ hgrow1
                have hI1 := item_kept HBA.out.2.1 HIB.out _ hgrow1
                have cW : w1.cell? ⟨wo.heap.size, 0, none⟩ = some (.bool true) := by rw [cell_of_blk hI1]; rfl
                have hs1 : w.heap.size + 4 ≤ w1.heap.size := by have := hgrow1.size; simp at this; omega
                have HE1 := Hid.mk E1
                have HO1 := Hid.mk hown1
                have HG1 := Hid.mk hgrow1
                clear E1 hown1 hgrow1 hI1
                go_wp2_with (at_builtin; refine wpList_append_own _ rfl (.tmp 131) (.tmp 137) 26 (by rfl) w.heap.size 4 i4 (.bool false) 1 1 Yba.underlying26 hi4 hy0 hy1 hy2 rfl (by decide) _ k (es.map fun p => .bool p.2) (by rfl) (HE1.out.alloc _) ⟨w1.heap.size, 0, none⟩ 1 1 [.bool hv] (by rfl) rfl (cell_one_new _ _ _) (one_bool _) ?e3 ?e4 ?e5 ?_)
                case e3 => unfold maxLen; omega
                case e4 => omega
                case e5 => first | omega | (simp; omega)
                intro ev' w2 hown2 hgrow2 _
                have R := HBA.out.push HREQ.out _ _ HO1.out HG1.out hown2 hgrow2
                have HR := Hid.mk R
                clear hown2 hgrow2 R HBA HO1 HG1 HE1
                go_wp2
                go_roundw
                case rel => exact ⟨k + 1, by omega, by go_num, _, HR.out⟩
                case measure => simp [intOf]; omega
        · have q2 : (0 : Int) < (k : Int) := by omega
          have q3 : (((D k).toNat : Int) % 4 == 3) = false := by simp; omega
          cases hW : W k
          · rw [hW] at d0
            cases hE : (((L k).toNat : Int) % 2 == 0)
            · go_wp2_with fail
              obtain ⟨wo, rfl⟩ : ∃ wo : World, wo = wr := ⟨_, rfl⟩
              go_loopw [15, 16] (fun hit i wi => ∃ m : Nat, m ≤ nn ∧ i = .int .i64 m ∧ ∃ lv ps, Inner w.heap.size wo wi #[.bool false, .int .u8 ((L k).toNat : Int), .int .u8 ((D k).toNat : Int)] none m hit lv ps) (fun _ i _ => nn - (intOf i).toNat)
              case atStart => exact ⟨0, Nat.zero_le _, rfl, _, _, inner_start _ _ _ _⟩
              case round =>
                obtain ⟨m, hm, rfl, lv, ps, hI⟩ := hrel
                by_cases hmn : m < nn
                · have q5 : (m : Int) < (nn : Int) := by omega
                  have cI : wr.cell? ⟨wo.heap.size, 1, none⟩ = some (.int .u8 ((L k).toNat : Int)) := by rw [cell_of_blk hI.2.2.2.2.2.2.1]; rfl
                  have cR : wr.cell? ⟨wo.heap.size + 1 + 1, 6, none⟩ = some lv := by rw [cell_of_blk hI.2.2.2.1]; rfl
                  have hs9 := hI.2.2.2.2.2.2.2.2
                  have hu := hI.2.1
                  subst hu
                  obtain ⟨hv, hhv⟩ : ∃ hv, hv = ps.any (· == w.heap.size + 1) := ⟨_, rfl⟩
                  rw [← hhv]
                  have HHV := Hid.mk hhv
                  have HI2 := Hid.mk hI
                  obtain ⟨i5, hi5, hx0, hx1, hx2⟩ := info_parts info115
                  clear hI d0 d1 d2 hhv
                  cases hbit : (bits .and .u8 (((L k).toNat : Int) / 2 ^ (2 + m)) 1 == 1)
                  · have hbit' : (bits .and .u8 (((L k).toNat : Int) / 2 ^ (2 + m)) 1 == 1) = false := hbit
                    go_wp2_with (at_builtin; refine wpList_append_lies _ rfl (.tmp 120) (.tmp 123) 105 (by rfl) (wo.heap.size + 3) 115 i5 (.agg #[.pointer none, .map none]) 2 16 Yba.underlying105 hi5 hx0 hx1 hx2 rfl (by decide) lv m (leaderCells ps) (by rfl) (HI2.out.2.2.2.2.1.alloc _) ⟨wr.heap.size, 0, none⟩ 1 1 [.pointer (some ⟨w.heap.size + 1 + 1 + 1, 0, none⟩), .map none] (by rfl) rfl (World.news_of_block (heap_alloc_new _ _)) (leaderCells_one _) (by decide) ?c3 ?c4 ?c5 (wr.heap.size + 1) (by simp) ?_)
                    case c3 => unfold maxLen; omega
                    case c4 => omega
                    case c5 => first | omega | (simp; omega)
                    intro g cap w1 hown1 hgrow1 _ _
                    have hk := HI2.out.grown _ hgrow1
                    have h1R := (hk (wo.heap.size + 1 + 1) (by omega)).trans HI2.out.2.2.2.1
                    have c1R : w1.cell? ⟨wo.heap.size + 1 + 1, 6, none⟩ = some lv := by rw [cell_of_blk h1R]; rfl
                    have f1R : w1.frozen? ⟨wo.heap.size + 1 + 1, 6, none⟩ = false := by simp [World.frozen?, h1R]
                    have R := HI2.out.step _ hgrow1 (w.heap.size + 1 + 1 + 1) g cap (.inr rfl) hown1 (.bool hv) (by rw [← HHV.out]; simp)
                    have HR := Hid.mk R
                    clear hown1 hgrow1 R hk h1R cI cR HI2
                    go_wp2
                    go_roundw
                    case rel => exact ⟨m + 1, by omega, by go_num, _, _, HR.out⟩
                    case measure => simp [intOf]; omega
                  · have hbit' : (bits .and .u8 (((L k).toNat : Int) / 2 ^ (2 + m)) 1 == 1) = true := hbit
                    go_wp2_with (at_builtin; refine wpList_append_lies _ rfl (.tmp 120) (.tmp 123) 105 (by rfl) (wo.heap.size + 3) 115 i5 (.agg #[.pointer none, .map none]) 2 16 Yba.underlying105 hi5 hx0 hx1 hx2 rfl (by decide) lv m (leaderCells ps) (by rfl) (HI2.out.2.2.2.2.1.alloc _) ⟨wr.heap.size, 0, none⟩ 1 1 [.pointer (some ⟨w.heap.size + 1, 0, none⟩), .map none] (by rfl) rfl (World.news_of_block (heap_alloc_new _ _)) (leaderCells_one _) (by decide) ?c3 ?c4 ?c5 (wr.heap.size + 1) (by simp) ?_)
                    case c3 => unfold maxLen; omega
                    case c4 => omega
                    case c5 => first | omega | (simp; omega)
                    intro g cap w1 hown1 hgrow1 _ _
                    have hk := HI2.out.grown _ hgrow1
                    have h1R := (hk (wo.heap.size + 1 + 1) (by omega)).trans HI2.out.2.2.2.1
                    have c1R : w1.cell? ⟨wo.heap.size + 1 + 1, 6, none⟩ = some lv := by rw [cell_of_blk h1R]; rfl
                    have f1R : w1.frozen? ⟨wo.heap.size + 1 + 1, 6, none⟩ = false := by simp [World.frozen?, h1R]
                    have R := HI2.out.step _ hgrow1 (w.heap.size + 1) g cap (.inl rfl) hown1 (.bool true) (by simp)
                    have HR := Hid.mk R
                    clear hown1 hgrow1 R hk h1R cI cR HI2
                    go_wp2
                    go_roundw
                    case rel => exact ⟨m + 1, by omega, by go_num, _, _, HR.out⟩
                    case measure => simp [intOf]; omega
                · have q5 : ¬ (m : Int) < (nn : Int) := by omega
                  have hs9 := hI.2.2.2.2.2.2.2.2
                  have hu := hI.2.1
                  subst hu
                  obtain ⟨hv, hhv⟩ : ∃ hv, hv = ps.any (· == w.heap.size + 1) := ⟨_, rfl⟩
                  rw [← hhv]
                  have cI0 : wr.cell? ⟨wo.heap.size, 0, none⟩ = some (.bool false) := by rw [cell_of_blk hI.2.2.2.2.2.2.1]; rfl
                  have hBa := HB.out.below hI.2.2.2.2.2.2.2.1
                  have hreq := hI.req (by omega) false (.inl rfl) (by simp) HB.out.2.2.2.2.2.2.1 HB.out.2.2.2.2.2.2.2
                  have hIB := hI.2.2.2.2.2.2.1
                  have HBA := Hid.mk hBa
                  have HREQ := Hid.mk hreq
                  have HIB := Hid.mk hIB
                  have hsw := hBa.2.2.2.2.2.1
                  obtain ⟨i0, hi, hz0, hz1, hz2⟩ := info_parts info23
                  obtain ⟨i4, hi4, hy0, hy1, hy2⟩ := info_parts info4
                  clear hBa hreq hIB hI hhv d0 d1 d2 cI0
                  go_wp2_with (at_builtin; refine wpList_append_own _ rfl (.tmp 127) (.tmp 129) 25 (by rfl) w.heap.size 23 i0 (.pointer none) 1 8 Yba.underlying25 hi hz0 hz1 hz2 rfl (by decide) _ k (ptrs (es.map (·.1))) (by rfl) (HBA.out.2.1.alloc _) ⟨wr.heap.size, 0, none⟩ 1 1 [.pointer (some ⟨wo.heap.size + 1 + 1, 0, none⟩)] (by rfl) rfl (cell_one_new _ _ _) (one_ptr _) ?c3 ?c4 ?c5 ?_)
                  case c3 => unfold maxLen; omega
                  case c4 => omega
                  case c5 => first | omega | (simp; omega)
                  intro lv' w1 hown1 hgrow1 _
                  have E1 := HBA.out.exp1 _ hgrow1
                  have hI1 := item_kept HBA.out.2.1 HIB.out _ hgrow1
                  have cW : w1.cell? ⟨wo.heap.size, 0, none⟩ = some (.bool false) := by rw [cell_of_blk hI1]; rfl
                  have hs1 : w.heap.size + 4 ≤ w1.heap.size := by have := hgrow1.size; simp at this; omega
                  have HE1 := Hid.mk E1
                  have HO1 := Hid.mk hown1
                  have HG1 := Hid.mk hgrow1
                  clear E1 hown1 hgrow1 hI1
                  go_wp2_with (at_builtin; refine wpList_append_own _ rfl (.tmp 131) (.tmp 137) 26 (by rfl) w.heap.size 4 i4 (.bool false) 1 1 Yba.underlying26 hi4 hy0 hy1 hy2 rfl (by decide) _ k (es.map fun p => .bool p.2) (by rfl) (HE1.out.alloc _) ⟨w1.heap.size, 0, none⟩ 1 1 [.bool false] (by rfl) rfl (cell_one_new _ _ _) (one_bool _) ?e3 ?e4 ?e5 ?_)
                  case e3 => unfold maxLen; omega
                  case e4 => omega
                  case e5 => first | omega | (simp; omega)
                  intro ev' w2 hown2 hgrow2 _
                  have R := HBA.out.push HREQ.out _ _ HO1.out HG1.out hown2 hgrow2
                  have HR := Hid.mk R
                  clear hown2 hgrow2 R HBA HO1 HG1 HE1
                  go_wp2
                  go_roundw
                  case rel => exact ⟨k + 1, by omega, by go_num, _, HR.out⟩
                  case measure => simp [intOf]; omega
            · go_wp2_with fail
              obtain ⟨wo, rfl⟩ : ∃ wo : World, wo = wr := ⟨_, rfl⟩
              go_loopw [15, 16] (fun hit i wi => ∃ m : Nat, m ≤ nn ∧ i = .int .i64 m ∧ ∃ lv ps, Inner w.heap.size wo wi #[.bool false, .int .u8 ((L k).toNat : Int), .int .u8 ((D k).toNat : Int)] (some ⟨w.heap.size + 1 + 1 + 1, 0, none⟩) m hit lv ps) (fun _ i _ => nn - (intOf i).toNat)
              case atStart => exact ⟨0, Nat.zero_le _, rfl, _, _, inner_start _ _ _ _⟩
              case round =>
                obtain ⟨m, hm, rfl, lv, ps, hI⟩ := hrel
                by_cases hmn : m < nn
                · have q5 : (m : Int) < (nn : Int) := by omega
                  have cI : wr.cell? ⟨wo.heap.size, 1, none⟩ = some (.int .u8 ((L k).toNat : Int)) := by rw [cell_of_blk hI.2.2.2.2.2.2.1]; rfl
                  have cR : wr.cell? ⟨wo.heap.size + 1 + 1, 6, none⟩ = some lv := by rw [cell_of_blk hI.2.2.2.1]; rfl
                  have hs9 := hI.2.2.2.2.2.2.2.2
                  have hu := hI.2.1
                  subst hu
                  obtain ⟨hv, hhv⟩ : ∃ hv, hv = ps.any (· == w.heap.size + 1) := ⟨_, rfl⟩
                  rw [← hhv]
                  have HHV := Hid.mk hhv
                  have HI2 := Hid.mk hI
                  obtain ⟨i5, hi5, hx0, hx1, hx2⟩ := info_parts info115
                  clear hI d0 d1 d2 hhv
                  cases hbit : (bits .and .u8 (((L k).toNat : Int) / 2 ^ (2 + m)) 1 == 1)
                  · have hbit' : (bits .and .u8 (((L k).toNat : Int) / 2 ^ (2 + m)) 1 == 1) = false := hbit
                    go_wp2_with (at_builtin; refine wpList_append_lies _ rfl (.tmp 120) (.tmp 123) 105 (by rfl) (wo.heap.size + 3) 115 i5 (.agg #[.pointer none, .map none]) 2 16 Yba.underlying105 hi5 hx0 hx1 hx2 rfl (by decide) lv m (leaderCells ps) (by rfl) (HI2.out.2.2.2.2.1.alloc _) ⟨wr.heap.size, 0, none⟩ 1 1 [.pointer (some ⟨w.heap.size + 1 + 1 + 1, 0, none⟩), .map none] (by rfl) rfl (World.news_of_block (heap_alloc_new _ _)) (leaderCells_one _) (by decide) ?c3 ?c4 ?c5 (wr.heap.size + 1) (by simp) ?_)
                    case c3 => unfold maxLen; omega
                    case c4 => omega
                    case c5 => first | omega | (simp; omega)
                    intro g cap w1 hown1 hgrow1 _ _
                    have hk := HI2.out.grown _ hgrow1
                    have h1R := (hk (wo.heap.size + 1 + 1) (by omega)).trans HI2.out.2.2.2.1
                    have c1R : w1.cell? ⟨wo.heap.size + 1 + 1, 6, none⟩ = some lv := by rw [cell_of_blk h1R]; rfl
                    have f1R : w1.frozen? ⟨wo.heap.size + 1 + 1, 6, none⟩ = false := by simp [World.frozen?, h1R]
                    have R := HI2.out.step _ hgrow1 (w.heap.size + 1 + 1 + 1) g cap (.inr rfl) hown1 (.bool hv) (by rw [← HHV.out]; simp)
                    have HR := Hid.mk R
                    clear hown1 hgrow1 R hk h1R cI cR HI2
                    go_wp2
                    go_roundw
                    case rel => exact ⟨m + 1, by omega, by go_num, _, _, HR.out⟩
                    case measure => simp [intOf]; omega
                  · have hbit' : (bits .and .u8 (((L k).toNat : Int) / 2 ^ (2 + m)) 1 == 1) = true := hbit
                    go_wp2_with (at_builtin; refine wpList_append_lies _ rfl (.tmp 120) (.tmp 123) 105 (by rfl) (wo.heap.size + 3) 115 i5 (.agg #[.pointer none, .map none]) 2 16 Yba.underlying105 hi5 hx0 hx1 hx2 rfl (by decide) lv m (leaderCells ps) (by rfl) (HI2.out.2.2.2.2.1.alloc _) ⟨wr.heap.size, 0, none⟩ 1 1 [.pointer (some ⟨w.heap.size + 1, 0, none⟩), .map none] (by rfl) rfl (World.news_of_block (heap_alloc_new _ _)) (leaderCells_one _) (by decide) ?c3 ?c4 ?c5 (wr.heap.size + 1) (by simp) ?_)
                    case c3 => unfold maxLen; omega
                    case c4 => omega
                    case c5 => first | omega | (simp; omega)
                    intro g cap w1 hown1 hgrow1 _ _
                    have hk := HI2.out.grown _ hgrow1
                    have h1R := (hk (wo.heap.size + 1 + 1) (by omega)).trans HI2.out.2.2.2.1
                    have c1R : w1.cell? ⟨wo.heap.size + 1 + 1, 6, none⟩ = some lv := by rw [cell_of_blk h1R]; rfl
                    have f1R : w1.frozen? ⟨wo.heap.size + 1 + 1, 6, none⟩ = false := by simp [World.frozen?, h1R]
                    have R := HI2.out.step _ hgrow1 (w.heap.size + 1) g cap (.inl rfl) hown1 (.bool true) (by simp)
                    have HR := Hid.mk R
                    clear hown1 hgrow1 R hk h1R cI cR HI2
                    go_wp2
                    go_roundw
                    case rel => exact ⟨m + 1, by omega, by go_num, _, _, HR.out⟩
                    case measure => simp [intOf]; omega
                · have q5 : ¬ (m : Int) < (nn : Int) := by omega
                  have hs9 := hI.2.2.2.2.2.2.2.2
                  have hu := hI.2.1
                  subst hu
                  obtain ⟨hv, hhv⟩ : ∃ hv, hv = ps.any (· == w.heap.size + 1) := ⟨_, rfl⟩
                  rw [← hhv]
                  have cI0 : wr.cell? ⟨wo.heap.size, 0, none⟩ = some (.bool false) := by rw [cell_of_blk hI.2.2.2.2.2.2.1]; rfl
                  have hBa := HB.out.below hI.2.2.2.2.2.2.2.1
                  have hso := HB.out.2.2.2.2.2.1
                  have hreq := hI.req (by omega) false (.inr (.inr rfl)) (by simp <;> omega) HB.out.2.2.2.2.2.2.1 HB.out.2.2.2.2.2.2.2
                  have hIB := hI.2.2.2.2.2.2.1
                  have HBA := Hid.mk hBa
                  have HREQ := Hid.mk hreq
                  have HIB := Hid.mk hIB
                  have hsw := hBa.2.2.2.2.2.1
                  obtain ⟨i0, hi, hz0, hz1, hz2⟩ := info_parts info23
                  obtain ⟨i4, hi4, hy0, hy1, hy2⟩ := info_parts info4
                  clear hBa hreq hIB hI hhv d0 d1 d2 cI0
                  go_wp2_with (at_builtin; refine wpList_append_own _ rfl (.tmp 127) (.tmp 129) 25 (by rfl) w.heap.size 23 i0 (.pointer none) 1 8 Yba.underlying25 hi hz0 hz1 hz2 rfl (by decide) _ k (ptrs (es.map (·.1))) (by rfl) (HBA.out.2.1.alloc _) ⟨wr.heap.size, 0, none⟩ 1 1 [.pointer (some ⟨wo.heap.size + 1 + 1, 0, none⟩)] (by rfl) rfl (cell_one_new _ _ _) (one_ptr _) ?c3 ?c4 ?c5 ?_)
                  case c3 => unfold maxLen; omega
                  case c4 => omega
                  case c5 => first | omega | (simp; omega)
                  intro lv' w1 hown1 hgrow1 _
                  have E1 := HBA.out.exp1 _ hgrow1
                  have hI1 := item_kept HBA.out.2.1 HIB.out _ hgrow1
                  have cW : w1.cell? ⟨wo.heap.size, 0, none⟩ = some (.bool false) := by rw [cell_of_blk hI1]; rfl
                  have hs1 : w.heap.size + 4 ≤ w1.heap.size := by have := hgrow1.size; simp at this; omega
                  have HE1 := Hid.mk E1
                  have HO1 := Hid.mk hown1
                  have HG1 := Hid.mk hgrow1
                  clear E1 hown1 hgrow1 hI1
                  go_wp2_with (at_builtin; refine wpList_append_own _ rfl (.tmp 131) (.tmp 137) 26 (by rfl) w.heap.size 4 i4 (.bool false) 1 1 Yba.underlying26 hi4 hy0 hy1 hy2 rfl (by decide) _ k (es.map fun p => .bool p.2) (by rfl) (HE1.out.alloc _) ⟨w1.heap.size, 0, none⟩ 1 1 [.bool false] (by rfl) rfl (cell_one_new _ _ _) (one_bool _) ?e3 ?e4 ?e5 ?_)
                  case e3 => unfold maxLen; omega
                  case e4 => omega
                  case e5 => first | omega | (simp; omega)
                  intro ev' w2 hown2 hgrow2 _
                  have R := HBA.out.push HREQ.out _ _ HO1.out HG1.out hown2 hgrow2
                  have HR := Hid.mk R
                  clear hown2 hgrow2 R HBA HO1 HG1 HE1
                  go_wp2
                  go_roundw
                  case rel => exact ⟨k + 1, by omega, by go_num, _, HR.out⟩
                  case measure => simp [intOf]; omega
          · rw [hW] at d0
            go_wp2_with fail
            obtain ⟨wo, rfl⟩ : ∃ wo : World, wo = wr := ⟨_, rfl⟩
            go_loopw [15, 16] (fun hit i wi => ∃ m : Nat, m ≤ nn ∧ i = .int .i64 m ∧ ∃ lv ps, Inner w.heap.size wo wi #[.bool true, .int .u8 ((L k).toNat : Int), .int .u8 ((D k).toNat : Int)] (some ⟨wo.heap.size + 1 + 1, 0, none⟩) m hit lv ps) (fun _ i _ => nn - (intOf i).toNat)
            case atStart => exact ⟨0, Nat.zero_le _, rfl, _, _, inner_start _ _ _ _⟩
            case round =>
              obtain ⟨m, hm, rfl, lv, ps, hI⟩ := hrel
              by_cases hmn : m < nn
              · have q5 : (m : Int) < (nn : Int) := by omega
                have cI : wr.cell? ⟨wo.heap.size, 1, none⟩ = some (.int .u8 ((L k).toNat : Int)) := by rw [cell_of_blk hI.2.2.2.2.2.2.1]; rfl
                have cR : wr.cell? ⟨wo.heap.size + 1 + 1, 6, none⟩ = some lv := by rw [cell_of_blk hI.2.2.2.1]; rfl
                have hs9 := hI.2.2.2.2.2.2.2.2
                have hu := hI.2.1
                subst hu
                obtain ⟨hv, hhv⟩ : ∃ hv, hv = ps.any (· == w.heap.size + 1) := ⟨_, rfl⟩
                rw [← hhv]
                have HHV := Hid.mk hhv
                have HI2 := Hid.mk hI
                obtain ⟨i5, hi5, hx0, hx1, hx2⟩ := info_parts info115
                clear hI d0 d1 d2 hhv
                cases hbit : (bits .and .u8 (((L k).toNat : Int) / 2 ^ (2 + m)) 1 == 1)
                · have hbit' : (bits .and .u8 (((L k).toNat : Int) / 2 ^ (2 + m)) 1 == 1) = false := hbit
                  go_wp2_with (at_builtin; refine wpList_append_lies _ rfl (.tmp 120) (.tmp 123) 105 (by rfl) (wo.heap.size + 3) 115 i5 (.agg #[.pointer none, .map none]) 2 16 Yba.underlying105 hi5 hx0 hx1 hx2 rfl (by decide) lv m (leaderCells ps) (by rfl) (HI2.out.2.2.2.2.1.alloc _) ⟨wr.heap.size, 0, none⟩ 1 1 [.pointer (some ⟨w.heap.size + 1 + 1 + 1, 0, none⟩), .map none] (by rfl) rfl (World.news_of_block (heap_alloc_new _ _)) (leaderCells_one _) (by decide) ?c3 ?c4 ?c5 (wr.heap.size + 1) (by simp) ?_)
                  case c3 => unfold maxLen; omega
                  case c4 => omega
                  case c5 => first | omega | (simp; omega)
                  intro g cap w1 hown1 hgrow1 _ _
                  have hk := HI2.out.grown _ hgrow1
                  have h1R := (hk (wo.heap.size + 1 + 1) (by omega)).trans HI2.out.2.2.2.1
                  have c1R : w1.cell? ⟨wo.heap.size + 1 + 1, 6, none⟩ = some lv := by rw [cell_of_blk h1R]; rfl
                  have f1R : w1.frozen? ⟨wo.heap.size + 1 + 1, 6, none⟩ = false := by simp [World.frozen?, h1R]
                  have R := HI2.out.step _ hgrow1 (w.heap.size + 1 + 1 + 1) g cap (.inr rfl) hown1 (.bool hv) (by rw [← HHV.out]; simp)
                  have HR := Hid.mk R
                  clear hown1 hgrow1 R hk h1R cI cR HI2
                  go_wp2
                  go_roundw
                  case rel => exact ⟨m + 1, by omega, by go_num, _, _, HR.out⟩
                  case measure => simp [intOf]; omega
                · have hbit' : (bits .and .u8 (((L k).toNat : Int) / 2 ^ (2 + m)) 1 == 1) = true := hbit
                  go_wp2_with (at_builtin; refine wpList_append_lies _ rfl (.tmp 120) (.tmp 123) 105 (by rfl) (wo.heap.size + 3) 115 i5 (.agg #[.pointer none, .map none]) 2 16 Yba.underlying105 hi5 hx0 hx1 hx2 rfl (by decide) lv m (leaderCells ps) (by rfl) (HI2.out.2.2.2.2.1.alloc _) ⟨wr.heap.size, 0, none⟩ 1 1 [.pointer (some ⟨w.heap.size + 1, 0, none⟩), .map none] (by rfl) rfl (World.news_of_block (heap_alloc_new _ _)) (leaderCells_one _) (by decide) ?c3 ?c4 ?c5 (wr.heap.size + 1) (by simp) ?_)
                  case c3 => unfold maxLen; omega
                  case c4 => omega
                  case c5 => first | omega | (simp; omega)
                  intro g cap w1 hown1 hgrow1 _ _
                  have hk := HI2.out.grown _ hgrow1
                  have h1R := (hk (wo.heap.size + 1 + 1) (by omega)).trans HI2.out.2.2.2.1
                  have c1R : w1.cell? ⟨wo.heap.size + 1 + 1, 6, none⟩ = some lv := by rw [cell_of_blk h1R]; rfl
                  have f1R : w1.frozen? ⟨wo.heap.size + 1 + 1, 6, none⟩ = false := by simp [World.frozen?, h1R]
                  have R := HI2.out.step _ hgrow1 (w.heap.size + 1) g cap (.inl rfl) hown1 (.bool true) (by simp)
                  have HR := Hid.mk R
                  clear hown1 hgrow1 R hk h1R cI cR HI2
                  go_wp2
                  go_roundw
                  case rel => exact ⟨m + 1, by omega, by go_num, _, _, HR.out⟩
                  case measure => simp [intOf]; omega
              · have q5 : ¬ (m : Int) < (nn : Int) := by omega
                have hs9 := hI.2.2.2.2.2.2.2.2
                have hu := hI.2.1
                subst hu
                obtain ⟨hv, hhv⟩ : ∃ hv, hv = ps.any (· == w.heap.size + 1) := ⟨_, rfl⟩
                rw [← hhv]
                have cI0 : wr.cell? ⟨wo.heap.size, 0, none⟩ = some (.bool true) := by rw [cell_of_blk hI.2.2.2.2.2.2.1]; rfl
                have hBa := HB.out.below hI.2.2.2.2.2.2.2.1
                have hreq := hI.req (by omega) hv (.inr (.inl rfl)) (by rw [hhv]; simp) HB.out.2.2.2.2.2.2.1 HB.out.2.2.2.2.2.2.2
                have hIB := hI.2.2.2.2.2.2.1
                have HBA := Hid.mk hBa
                have HREQ := Hid.mk hreq
                have HIB := Hid.mk hIB
                have hsw := hBa.2.2.2.2.2.1
                obtain ⟨i0, hi, hz0, hz1, hz2⟩ := info_parts info23
                obtain ⟨i4, hi4, hy0, hy1, hy2⟩ := info_parts info4
                clear hBa hreq hIB hI hhv d0 d1 d2 cI0
                go_wp2_with (at_builtin; refine wpList_append_own _ rfl (.tmp 127) (.tmp 129) 25 (by rfl) w.heap.size 23 i0 (.pointer none) 1 8 Yba.underlying25 hi hz0 hz1 hz2 rfl (by decide) _ k (ptrs (es.map (·.1))) (by rfl) (HBA.out.2.1.alloc _) ⟨wr.heap.size, 0, none⟩ 1 1 [.pointer (some ⟨wo.heap.size + 1 + 1, 0, none⟩)] (by rfl) rfl (cell_one_new _ _ _) (one_ptr _) ?c3 ?c4 ?c5 ?_)
                case c3 => unfold maxLen; omega
                case c4 => omega
                case c5 => first | omega | (simp; omega)
                intro lv' w1 hown1 hgrow1 _
                have E1 := HBA.out.exp1 _ hgrow1
                have hI1 := item_kept HBA.out.2.1 HIB.out _ hgrow1
                have cW : w1.cell? ⟨wo.heap.size, 0, none⟩ = some (.bool true) := by rw [cell_of_blk hI1]; rfl
                have hs1 : w.heap.size + 4 ≤ w1.heap.size := by have := hgrow1.size; simp at this; omega
                have HE1 := Hid.mk E1
                have HO1 := Hid.mk hown1
                have HG1 := Hid.mk hgrow1
                clear E1 hown1 hgrow1 hI1
                go_wp2_with (at_builtin; refine wpList_append_own _ rfl (.tmp 131) (.tmp 137) 26 (by rfl) w.heap.size 4 i4 (.bool false) 1 1 Yba.underlying26 hi4 hy0 hy1 hy2 rfl (by decide) _ k (es.map fun p => .bool p.2) (by rfl) (HE1.out.alloc _) ⟨w1.heap.size, 0, none⟩ 1 1 [.bool hv] (by rfl) rfl (cell_one_new _ _ _) (one_bool _) ?e3 ?e4 ?e5 ?_)
                case e3 => unfold maxLen; omega
                case e4 => omega
                case e5 => first | omega | (simp; omega)
                intro ev' w2 hown2 hgrow2 _
                have R := HBA.out.push HREQ.out _ _ HO1.out HG1.out hown2 hgrow2
                have HR := Hid.mk R
                clear hown2 hgrow2 R HBA HO1 HG1 HE1
                go_wp2
                go_roundw
                case rel => exact ⟨k + 1, by omega, by go_num, _, HR.out⟩
                case measure => simp [intOf]; omega
    · have q1 : ¬ (k : Int) < (n : Int) := by omega
      obtain rfl : k = n := by omega
      have HB : Hid (Built w wr u7 u8 k es) := hB
      clear hB
      go_wp2
      go_ret3
      exact ⟨_, _, rfl, es, HB.out⟩
end Go.Proofs.Ybulkatsw.Fo
