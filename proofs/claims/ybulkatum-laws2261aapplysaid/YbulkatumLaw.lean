import Derived.Test.YbulkatumBuild
import Derived.Test.YbulkatumQuiet
import Derived.Maps.AppendAt
import Derived.BigQuiet
namespace Go.Proofs.Ybulkatum.Ap
open Go.RowKit
set_option linter.unusedVariables false

theorem ms_drew {W : World} {b o : Nat} {cs : List Value} {a : Addr} {v : Option Value} (h : W.rangeAt b o cs ∧ W.cell? a = v) : W.drew.rangeAt b o cs ∧ W.drew.cell? a = v := by simpa using h
theorem But.range {n : Nat} {w w' : World} (h : But n w w') {c o : Nat} {cs : List Value} (hc : w.rangeAt c o cs) (h1 : c ≠ n + 1) (h3 : c ≠ n + 3) : w'.rangeAt c o cs := fun j v hv => by
  have hj := hc j v hv
  have := h.block c (World.block_lt_of_cell? w _ hj) h1 h3
  unfold World.cell? at *
  simp only [this]
  exact hj
theorem But.cell {n : Nat} {w w' : World} (h : But n w w') {a : Addr} {v : Value} (hc : w.cell? a = some v) (h1 : a.block ≠ n + 1) (h3 : a.block ≠ n + 3) : w'.cell? a = some v := by
  have := h.block a.block (World.block_lt_of_cell? w _ hc) h1 h3
  unfold World.cell? at *
  simp only [this]
  exact hc
theorem But.cells {n : Nat} {w w' : World} (h : But n w w') {b o : Nat} {v : Value} (hc : Cell w b o v) (h1 : b ≠ n + 1) (h3 : b ≠ n + 3) : Cell w' b o v := by
  have := h.block b hc.lt h1 h3
  unfold Cell World.cell? World.frozen? at *
  simp only [this]
  exact hc

/-- The law's own memory behind 'checkChange'. -/
structure Mn (w W : World) (n k u : Nat) (I : Nat → Nat → UInt8) (R R' : Nat → Row) (S : Nat → Nat) (h t : Nat) (En : Int) : Prop where
  mem : Mem W n R' S h t
  ids : Ids W (n + 6) k I
  was : Was W u k R
  box : W.cell? ⟨w.heap.size, 6, none⟩ = some (.int .i64 En)
  below : Below w.heap.size w W
theorem Mn.up {w W W' : World} {n k u : Nat} {I : Nat → Nat → UInt8} {R R' : Nat → Row} {S : Nat → Nat} {h t : Nat} {En : Int} (m : Mn w W n k u I R R' S h t En) (b : Below W.heap.size W W') : Mn w W' n k u I R R' S h t En :=
  ⟨m.mem.keep (Keeps.below b), m.ids.keep (Keeps.below b), m.was.keep (fun _ _ x => (Keeps.below b).1 _ _ _ x), Keeps.cell b m.box, m.below.trans (b.mono (m.below.size))⟩
theorem Mn.drew {w W : World} {n k u : Nat} {I : Nat → Nat → UInt8} {R R' : Nat → Row} {S : Nat → Nat} {h t : Nat} {En : Int} (m : Mn w W n k u I R R' S h t En) : Mn w W.drew n k u I R R' S h t En :=
  m.up (Below.refl _ _).drew

theorem below_drewN (W : World) (n : Nat) : Below W.heap.size W (W.drewN n) := ⟨rfl, rfl, rfl, Nat.le_refl _, fun _ _ => rfl⟩
def refs (l : List Nat) : List Value := l.map fun (x : Nat) => Value.int .u32 (x : Int)
theorem one_ref (x : Int) : ∀ v ∈ [Value.int .u32 x], v.oneCell' = true := by intro v hv; simp at hv; subst hv; rfl

theorem refs_snoc (l : List Nat) (i : Nat) : refs (l ++ [i + 1]) = refs l ++ [.int .u32 ((i : Int) + 1)] := by simp [refs]
theorem ex_len (wt : Nat → Bool) (t : Nat) : ∀ i, (ex wt t i).length ≤ i
  | 0 => by simp [ex]
  | i + 1 => by
    have := ex_len wt t i
    rw [ex, List.length_append]
    split <;> simp <;> omega
theorem ex_mem (wt : Nat → Bool) (t : Nat) : ∀ i x, x ∈ ex wt t i → 1 ≤ x ∧ x ≤ i
  | 0, x, h => by simp [ex] at h
  | i + 1, x, h => by
    rw [ex, List.mem_append] at h
    rcases h with h | h
    · have := ex_mem wt t i x h
      omega
    · split at h
      · simp at h; omega
      · simp at h
theorem own_any {w : World} {B : Nat} {e : TypeId} {v : Value} {n : Nat} {xs : List Value} (h : w.ownsRow B e 1 v n xs) : ∃ a c, v = .slice a n c ∧ ∀ j (hj : j < n), ∃ g, a = some ⟨g, 0, none⟩ ∧ w.cell? ⟨g, j, none⟩ = xs[j]? := by
  rcases h.2 with ⟨rfl, rfl⟩ | ⟨g, c, cur, rfl, _, hh, hn, _, hs, ht⟩
  · exact ⟨none, 0, rfl, fun j hj => absurd hj (Nat.not_lt_zero _)⟩
  · refine ⟨_, c, rfl, fun j hj => ⟨g, rfl, ?_⟩⟩
    rw [cell_of_row w g j cur e (0, 0) hh, ← ht, List.getElem?_take_of_lt (by omega)]
    simp

attribute [local go_sem ↓] Go.wp_at_zero Go.wp_at_succ
set_option maxRecDepth 20000 in
set_option maxHeartbeats 1600000 in
theorem law_any (K Sel Salt Wait Reopen Checks : Nat) (En : Int) (w : World) (h1 : K < 256) (h6 : Sel < 256) (h2 : Salt < 256) (h3 : Wait < 65536) (h4 : Reopen < 65536) (h5 : Checks < 4294967296) :
    Calls Yba.prog 3 #[.agg #[.int .u8 (K : Int), .int .u8 (Sel : Int), .int .u8 (Salt : Int), .int .u16 (Wait : Int), .int .u16 (Reopen : Int), .int .u32 (Checks : Int), .int .i64 En]] w fun e w' =>
      e = .returned (.bool true) ∧ Below w.heap.size w w' := by
  obtain ⟨k, hk⟩ : ∃ k, k = K % 8 + 1 := ⟨_, rfl⟩
  have hk8 : k ≤ 8 := by omega
  have hk1 : 1 ≤ k := by omega
  obtain ⟨tt, htt⟩ : ∃ tt, tt = Sel % k := ⟨_, rfl⟩
  have htk : tt < k := by rw [htt]; exact Nat.mod_lt _ (by omega)
  have hrem : (Sel : Int) % (k : Int) = (tt : Int) := by rw [htt]; omega
  have HK := Hid.mk hk
  have HTT := Hid.mk htt
  clear htt hk
  go_enter Yba.func3, Yba.ntmps3
  go_upto_region 2 with (go_at_call 4; refine (build_any K Sel Salt Wait Reopen Checks En _ h1 h2 h3 h4 h5 k HK.out).mono ?_; rintro e w1 ⟨rfl, R, S, hh, tl, hBx, hPB⟩)
  obtain ⟨inp, hinp⟩ : ∃ inp : Array Value, inp = #[.int .u8 (K : Int), .int .u8 (Sel : Int), .int .u8 (Salt : Int), .int .u16 (Wait : Int), .int .u16 (Reopen : Int), .int .u32 (Checks : Int), .int .i64 En] := ⟨_, rfl⟩
  rw [← hinp] at hBx
  have es : (w.alloc (.cells inp 25)).heap.size = w.heap.size + 1 := by simp
  rw [es] at hBx
  obtain ⟨n, hn⟩ : ∃ n, n = w.heap.size + 1 := ⟨_, rfl⟩
  simp only [← hn] at hBx ⊢
  have hbW : Below w.heap.size w ((w.alloc (.cells inp 25)).alloc (.cells inp 25)) := ((Below.refl _ _).alloc (Nat.le_refl _) _).alloc (by simp) _
  have hb1 : Below w.heap.size w w1 := hbW.trans (hBx.below.mono (by omega))
  have y1 : w1.cell? ⟨w.heap.size, 1, none⟩ = some (.int .u8 (Sel : Int)) := by
    rw [hBx.below.cell (p := ⟨w.heap.size, 1, none⟩) (by show w.heap.size < n + 1; omega), World.cell?_alloc_lt _ _ _ (by simp), World.cell?_alloc_new, hinp]; rfl
  have y6 : w1.cell? ⟨w.heap.size, 6, none⟩ = some (.int .i64 En) := by
    rw [hBx.below.cell (p := ⟨w.heap.size, 6, none⟩) (by show w.heap.size < n + 1; omega), World.cell?_alloc_lt _ _ _ (by simp), World.cell?_alloc_new, hinp]; rfl
  have c44 := hBx.mem.c44.1
  have c4 := hBx.mem.c4.1
  have hm109 := make109 k hk8
  obtain ⟨W2, hcopy, hwas, hb2, hs2⟩ := copy_run w1 n k R S hh tl hk8 hk1 hBx.mem (by have := hBx.size; omega)
  have hk0 : ((k : Int) == 0) = false := by simp; omega
  have HN := Hid.mk hn
  have HBX := Hid.mk hBx
  have HPB := Hid.mk hPB
  have HWAS := Hid.mk hwas
  have HB1 := Hid.mk hb1
  have HB2 := Hid.mk hb2
  clear hinp es hn hbW hb1 hBx hPB hwas hb2
  go_upto_region 4 with fail
  rw [hrem]
  have q1 : (k : Int) ≤ 1024 := by omega
  have q2 : (0 : Int) ≤ (k : Int) := by omega
  go_upto_region 6 with fail
  obtain ⟨u, hu0⟩ : ∃ u, u = w1.heap.size := ⟨_, rfl⟩
  have hn7 : n + 7 ≤ u := by rw [hu0]; exact HBX.out.size
  have hM2 : Mem W2 n R S hh tl := HBX.out.mem.keep (Keeps.below HB2.out)
  have hI2 : Ids W2 (n + 6) k (idf Salt) := HBX.out.ids.keep (Keeps.below HB2.out)
  have hW2 := HWAS.out
  have z6 : W2.cell? ⟨w.heap.size, 6, none⟩ = some (.int .i64 En) := Keeps.cell HB2.out y6
  have hb2 : Below w.heap.size w W2 := HB1.out.trans (HB2.out.mono HB1.out.size)
  rw [← hu0] at hW2 ⊢
  clear hu0 HBX HWAS HB1 HB2 hcopy hm109 c44 c4 y1 y6 hs2 q1 q2 hrem hk0
  clear w1
  have ht8 : tt < 8 := by omega
  obtain ⟨d, hP⟩ := HPB.out.probe hk8 R (fun _ => rfl) tt htk
  obtain ⟨l1, l2, l3, l4⟩ := HPB.out.links hk8 htk
  obtain ⟨a1, a2⟩ := build122 (idf Salt tt)
  obtain ⟨A, hA⟩ : ∃ A, A = recOf (idList (idf Salt tt)) := ⟨_, rfl⟩
  rw [← hA] at a1 a2
  have hfl : bits .and .u8 (R tt).fl 1 = if wtOf Wait tt then 1 else 0 := by
    rw [(HPB.out.row tt htk).2.2.2, flOf]
    cases wtOf Reopen tt <;> cases wtOf Wait tt <;> decide
  have HC : Hid (∀ W, Mem W n R S hh tl → Calls Yba.prog 5 #[.pointer (some ⟨n + 2, 0, none⟩), .agg A, .int .i64 En] W fun e w' => e = .returned (.pointer none) ∧
      Mem w' n (changed R tt (wtOf Wait tt) En) S (if wtOf Wait tt then (if (R tt).pv = 0 then (R tt).nx else hh) else hh) (if wtOf Wait tt then (if (R tt).nx = 0 then (R tt).pv else tl) else tl) ∧ But n W w') := fun W hW =>
    change_row W n R S hh tl tt (tt + 1) d (wtOf Wait tt) (idf Salt tt) A En hW hP ht8 rfl a1 a2 hfl l1 l2 l3 l4
  obtain ⟨hF, hPv, hNx⟩ := HPB.out.after hk8 htk En
  obtain ⟨R', hR'⟩ : ∃ R', R' = changed R tt (wtOf Wait tt) En := ⟨_, rfl⟩
  obtain ⟨h', hh'⟩ : ∃ h', h' = (if wtOf Wait tt then (if (R tt).pv = 0 then (R tt).nx else hh) else hh) := ⟨_, rfl⟩
  obtain ⟨t', ht'⟩ : ∃ t', t' = (if wtOf Wait tt then (if (R tt).nx = 0 then (R tt).pv else tl) else tl) := ⟨_, rfl⟩
  rw [← hR', ← hh', ← ht'] at hF HC
  rw [← hR'] at hPv hNx
  have HRF : Hid (∀ j, (R' j).id = (R j).id ∧ (R' j).chk = (if j = tt then IntKind.u32.wrap ((R tt).chk + 1) else (R j).chk) ∧ (R' j).en = (if j = tt then En else (R j).en) ∧ (R' j).fl = (if j = tt ∧ wtOf Wait tt = true then bits .andNot .u8 (R tt).fl 1 else (R j).fl)) := by
    intro j; rw [hR']; exact changed_fields R tt _ En j
  have HLK := Hid.mk hF
  have HPV := Hid.mk hPv
  have HNX := Hid.mk hNx
  clear hF hPv hNx hP l1 l2 l3 l4 a1 a2 hfl hR' hh' ht'
  obtain ⟨cs, hcs⟩ : ∃ cs, cs = idList (idf Salt tt) := ⟨_, rfl⟩
  have hl : cs.length = 16 := by rw [hcs]; exact idList_length _
  have hi1 : (Yba.prog.info? 113).map (·.size) = some cs.length := by rw [hl]; exact info113
  have hu := Yba.underlying113
  rw [hA, ← hcs] at HC
  have hr2 : W2.rangeAt (n + 6) (tt * 16) cs := by rw [hcs]; exact hI2.at tt htk
  have hS0 : W2.rangeAt (n + 6) (tt * 16) cs ∧ W2.cell? ⟨w.heap.size, 6, none⟩ = some (.int .i64 En) := ⟨hr2, z6⟩
  have HM2 := Hid.mk hM2
  have HI2 := Hid.mk hI2
  have HW2 := Hid.mk hW2
  have HCS := Hid.mk hcs
  have HBB := Hid.mk hb2
  have htk' : (tt : Int) < (k : Int) := by omega
  have htk0 : (0 : Int) ≤ (tt : Int) := by omega
  clear hM2 hI2 hW2 hcs hb2 hr2 z6 hA
  go_region_held3 (fun w' => w'.rangeAt (n + 6) (tt * 16) cs ∧ w'.cell? ⟨w.heap.size, 6, none⟩ = some (.int .i64 En)) (first | assumption | exact ms_drew (by assumption))
    ((go_at_call 5; refine (HC.out _ (by first | exact HM2.out | exact HM2.out.drew)).mono ?_; rintro e w3 ⟨rfl, hM3, hB3⟩; have hS3 : w3.rangeAt (n + 6) (tt * 16) cs ∧ w3.cell? ⟨w.heap.size, 6, none⟩ = some (.int .i64 En) := ⟨hB3.range (by first | exact hS0.1 | exact (ms_drew hS0).1) (by omega) (by omega), hB3.cell (by first | exact hS0.2 | exact (ms_drew hS0).2) (by have := HN.out; show w.heap.size ≠ n + 1; omega) (by have := HN.out; show w.heap.size ≠ n + 3; omega)⟩))
  have hMn : Mn w w3 n k u (idf Salt) R R' S h' t' En := by
    have hd : Below W2.heap.size W2 W2.drew := (Below.refl _ _).drew
    refine ⟨hM3, fun i hi c hc => hB3.cells ((HI2.out i hi c hc).drew) (by omega) (by omega), HW2.out.keep fun o v x => hB3.cells x.drew (by omega) (by omega), hS3.2, ?_⟩
    have hlt : n + 2 < W2.heap.size := HM2.out.c44.lt
    have hb3 := (hB3.toBelow (show n < W2.drew.heap.size by show n < W2.heap.size; omega)).mono (show w.heap.size ≤ n + 1 by have := HN.out; omega)
    exact HBB.out.trans ((hd.mono (HBB.out.size)).trans hb3)
  have HMN := Hid.mk hMn
  have heq : ∀ W, (Op.equalIn 10000 113 (.agg cs.toArray) (.agg cs.toArray)).run Yba.prog W = .ok true W := by rw [HCS.out]; exact eq_ids_same _ _ (fun _ _ => rfl)
  have rowid : (R tt).id = idf Salt tt := (HPB.out.row tt htk).1
  have r1 : w3.rangeAt (n + 3) (tt * 48) cs := by have := hMn.mem.idAt tt ht8; rw [(HRF.out tt).1, rowid, ← HCS.out] at this; exact this
  have r2 : w3.rangeAt u (tt * 48) cs := by
    intro j v hv
    rw [HCS.out] at hv
    have hj : j < 16 := by have := (List.getElem?_eq_some_iff.1 hv).1; rw [idList_length] at this; exact this
    rw [idList_get _ _ hj] at hv
    rw [(hMn.was tt htk j (by omega)).1, ← hv]
    simp [rowCell, hj, rowid]
  obtain ⟨ck, hck⟩ : ∃ ck, ck = (R tt).chk := ⟨_, rfl⟩
  obtain ⟨fl, hfl⟩ : ∃ fl, fl = (R tt).fl := ⟨_, rfl⟩
  obtain ⟨ck', hck'⟩ : ∃ ck', IntKind.u32.wrap (ck + 1) = ck' := ⟨_, rfl⟩
  obtain ⟨fl', hfl'⟩ : ∃ fl', bits .andNot .u8 fl 1 = fl' := ⟨_, rfl⟩
  have k1 : w3.cell? ⟨n + 3, tt * 48 + 38, none⟩ = some (.int .u32 ck') := by have := (hMn.mem.chk tt ht8).1; rw [(HRF.out tt).2.1, if_pos rfl, ← hck, hck'] at this; exact this
  have k2 : w3.cell? ⟨u, tt * 48 + 38, none⟩ = some (.int .u32 ck) := by have := (hMn.was tt htk 38 (by omega)).1; rw [hck]; exact this
  have k3 : w3.cell? ⟨n + 3, tt * 48 + 34, none⟩ = some (.int .i64 En) := by have := (hMn.mem.en tt ht8).1; rw [(HRF.out tt).2.2.1, if_pos rfl] at this; exact this
  have k4 : w3.cell? ⟨n + 3, tt * 48 + 45, none⟩ = some (.int .u8 fl') := by
    have := (hMn.mem.fl tt ht8).1
    rw [(HRF.out tt).2.2.2, ← hfl] at this
    rw [this, ← hfl']
    congr 2
    have hro := (HPB.out.row tt htk).2.2.2
    rw [← hfl] at hro
    rw [hro, flOf]
    simp only [true_and]
    cases wtOf Reopen tt <;> cases wtOf Wait tt <;> decide
  have k5 : w3.cell? ⟨u, tt * 48 + 45, none⟩ = some (.int .u8 fl) := by have := (hMn.was tt htk 45 (by omega)).1; rw [hfl]; exact this
  have k6 : w3.cell? ⟨n + 3, tt * 48 + 46, none⟩ = some (.int .u32 0) := by have := (hMn.mem.pv tt ht8).1; rw [HPV.out] at this; exact this
  have k7 : w3.cell? ⟨n + 3, tt * 48 + 47, none⟩ = some (.int .u32 0) := by have := (hMn.mem.nx tt ht8).1; rw [HNX.out] at this; exact this
  have hS10 : w3.rangeAt (n + 3) (tt * 48) cs ∧ w3.rangeAt u (tt * 48) cs ∧ w3.cell? ⟨n + 3, tt * 48 + 38, none⟩ = some (.int .u32 ck') ∧ w3.cell? ⟨u, tt * 48 + 38, none⟩ = some (.int .u32 ck) ∧ w3.cell? ⟨n + 3, tt * 48 + 34, none⟩ = some (.int .i64 En) ∧ w3.cell? ⟨w.heap.size, 6, none⟩ = some (.int .i64 En) := ⟨r1, r2, k1, k2, k3, hMn.box⟩
  have HS12 : Hid (w3.cell? ⟨n + 3, tt * 48 + 45, none⟩ = some (.int .u8 fl') ∧ w3.cell? ⟨u, tt * 48 + 45, none⟩ = some (.int .u8 fl) ∧ w3.cell? ⟨n + 3, tt * 48 + 46, none⟩ = some (.int .u32 0) ∧ w3.cell? ⟨n + 3, tt * 48 + 47, none⟩ = some (.int .u32 0)) := ⟨k4, k5, k6, k7⟩
  have q3 : (tt : Int) < 1024 := by omega
  have hgd := Yba.eqGuardType113
  clear hMn hM3 hB3 hS3 hS0 rowid hck hfl r1 r2 k1 k2 k3 k4 k5 k6 k7 HM2 HI2 HW2 HBB HC
  clear W2
  go_upto_region 10 with fail
  obtain ⟨g1, g2, g3, g4, g5, g6⟩ := hS10
  refine wp_region_quiet_lit (by kernel_rfl) (by kernel_rfl) ?_
  repeat (first | (refine wpQuiet_load_mid (by rfl) 113 (.tmp 62) rfl (n + 3) (tt * 48) rfl cs _ (rangeAt_drewN g1) hu rfl hi1 ?_; simp only [Act.put, List.setIfInBounds_toArray, List.set_cons_zero, List.set_cons_succ]) | (refine wpQuiet_load_mid (by rfl) 113 (.tmp 67) rfl u (tt * 48) rfl cs _ (rangeAt_drewN g2) hu rfl hi1 ?_; simp only [Act.put, List.setIfInBounds_toArray, List.set_cons_zero, List.set_cons_succ]) | quiet_step (fail))
  refine wpQuiet_nil ?_
  rintro _ ⟨nq, rfl⟩
  have hM4 : Mn w (w3.drewN nq) n k u (idf Salt) R R' S h' t' En := HMN.out.up (below_drewN _ _)
  have hS12 : (w3.drewN nq).cell? ⟨n + 3, tt * 48 + 45, none⟩ = some (.int .u8 fl') ∧ (w3.drewN nq).cell? ⟨u, tt * 48 + 45, none⟩ = some (.int .u8 fl) ∧ (w3.drewN nq).cell? ⟨n + 3, tt * 48 + 46, none⟩ = some (.int .u32 0) ∧ (w3.drewN nq).cell? ⟨n + 3, tt * 48 + 47, none⟩ = some (.int .u32 0) := HS12.out
  obtain ⟨W4, hW4⟩ : ∃ W4, W4 = w3.drewN nq := ⟨_, rfl⟩
  rw [← hW4] at hM4 hS12 ⊢
  have HM4 := Hid.mk hM4
  clear hW4 g1 g2 g3 g4 g5 g6 HMN HS12 hM4
  obtain ⟨g1, g2, g3, g4⟩ := hS12
  go_upto_region 12 with fail
  go_quiet (fail)
  have hM5 : Mn w (W4.drewN nq) n k u (idf Salt) R R' S h' t' En := HM4.out.up (below_drewN _ _)
  obtain ⟨W5, hW5⟩ : ∃ W5, W5 = W4.drewN nq := ⟨_, rfl⟩
  rw [← hW5] at hM5 ⊢
  have HM5 := Hid.mk hM5
  clear hW5 g1 g2 g3 g4 HM4 hM5
  obtain ⟨i0, hi, hz0, hz1, hz2⟩ := info_parts info32
  obtain ⟨W6, hmk, hown, hgrow⟩ := run_make_own (P := Yba.prog) W5 W5.heap.size 33 32 i0 (.int .u32 0) 1 Yba.underlying33 hi hz0 hz1 .i64 .i64 k (by rw [hz2]; omega) (by unfold maxLen; omega) (Nat.le_refl _)
  have hb6 : Below W5.heap.size W5 W6 := (Below.refl _ _).grown hgrow (Nat.le_refl _) (by simp)
  have HOWN := Hid.mk hown
  have HB6 := Hid.mk hb6
  clear hown hgrow hb6 heq hck' hfl'
  go_wp2_with fail
  go_loopw [11, 12] (fun ev iv wr => ∃ i : Nat, i ≤ k ∧ iv = .int .i64 (i : Int) ∧ Below W5.heap.size W5 wr ∧ wr.ownsRow W5.heap.size 32 1 ev (ex (wtOf Wait) tt i).length (refs (ex (wtOf Wait) tt i))) (fun _ iv _ => k - (intOf iv).toNat)
  case atStart => exact ⟨0, Nat.zero_le _, rfl, HB6.out, HOWN.out⟩
  case round =>
    obtain ⟨i, hik, rfl, hbr, hor⟩ := hrel
    have HBR := Hid.mk hbr
    have HOR := Hid.mk hor
    clear hmk HOWN HB6 hbr hor
    by_cases hlt : i < k
    · have p1 : (i : Int) < (k : Int) := by omega
      have p0 : (0 : Int) ≤ (i : Int) := by omega
      by_cases hit : i = tt
      · have p2 : ((i : Int) == (tt : Int)) = true := by simp; omega
        have HIT := Hid.mk hit
        clear hit
        go_wp2
        go_roundw
        case rel =>
          refine ⟨i + 1, by omega, by go_num, HBR.out, ?_⟩
          have e : ex (wtOf Wait) tt (i + 1) = ex (wtOf Wait) tt i := by simp [ex, HIT.out]
          rw [e]
          exact HOR.out
        case measure => simp [intOf]; omega
      · have p2 : ((i : Int) == (tt : Int)) = false := by simp; omega
        have p3 : (i : Int) < 1024 := by omega
        have hi8 : i < 8 := by omega
        have hMr : Mn w wr n k u (idf Salt) R R' S h' t' En := HM5.out.up HBR.out
        obtain ⟨c2, hc2⟩ : ∃ c2, c2 = idList (idf Salt i) := ⟨_, rfl⟩
        have hl2 : (Yba.prog.info? 113).map (·.size) = some c2.length := by rw [hc2, idList_length]; exact info113
        have heq : ∀ W, (Op.equalIn 10000 113 (.agg c2.toArray) (.agg c2.toArray)).run Yba.prog W = .ok true W := by rw [hc2]; exact eq_ids_same _ _ (fun _ _ => rfl)
        obtain ⟨y1, y2, y3, y4⟩ := HPB.out.row i hlt
        obtain ⟨f1, f2, f3, f4⟩ := HRF.out i
        rw [if_neg hit] at f2 f3
        rw [if_neg (fun x => hit x.1)] at f4
        have r1 : wr.rangeAt (n + 3) (i * 48) c2 := by have := hMr.mem.idAt i hi8; rw [f1, y1, ← hc2] at this; exact this
        have r2 : wr.rangeAt u (i * 48) c2 := by
          intro j v hv
          rw [hc2] at hv
          have hj : j < 16 := by have := (List.getElem?_eq_some_iff.1 hv).1; rw [idList_length] at this; exact this
          rw [idList_get _ _ hj] at hv
          rw [(hMr.was i hlt j (by omega)).1, ← hv]
          simp [rowCell, hj, y1]
        obtain ⟨ck, hck⟩ : ∃ ck, ck = (R i).chk := ⟨_, rfl⟩
        obtain ⟨en, hen⟩ : ∃ en, en = (R i).en := ⟨_, rfl⟩
        obtain ⟨fl, hfl⟩ : ∃ fl, fl = (R i).fl := ⟨_, rfl⟩
        have k1 : wr.cell? ⟨n + 3, i * 48 + 38, none⟩ = some (.int .u32 ck) := by have := (hMr.mem.chk i hi8).1; rw [f2, ← hck] at this; exact this
        have k2 : wr.cell? ⟨u, i * 48 + 38, none⟩ = some (.int .u32 ck) := by have := (hMr.was i hlt 38 (by omega)).1; rw [hck]; exact this
        have k3 : wr.cell? ⟨n + 3, i * 48 + 34, none⟩ = some (.int .i64 en) := by have := (hMr.mem.en i hi8).1; rw [f3, ← hen] at this; exact this
        have k4 : wr.cell? ⟨u, i * 48 + 34, none⟩ = some (.int .i64 en) := by have := (hMr.was i hlt 34 (by omega)).1; rw [hen]; exact this
        have k5 : wr.cell? ⟨n + 3, i * 48 + 45, none⟩ = some (.int .u8 fl) := by have := (hMr.mem.fl i hi8).1; rw [f4, ← hfl] at this; exact this
        have k6 : wr.cell? ⟨u, i * 48 + 45, none⟩ = some (.int .u8 fl) := by have := (hMr.was i hlt 45 (by omega)).1; rw [hfl]; exact this
        have hbit : bits .and .u8 fl 1 = if wtOf Wait i then 1 else 0 := by
          rw [hfl, y4, flOf]
          cases wtOf Reopen i <;> cases wtOf Wait i <;> decide
        clear hc2 y1 y2 y3 y4 f1 f2 f3 f4 hck hen hfl hMr
        go_upto_region 20 with fail
        refine wp_region_quiet_lit (by kernel_rfl) (by kernel_rfl) ?_
        repeat (first | (refine wpQuiet_load_mid (by rfl) 113 (.tmp 133) rfl (n + 3) (i * 48) rfl c2 _ (rangeAt_drewN r1) hu rfl hl2 ?_; simp only [Act.put, List.setIfInBounds_toArray, List.set_cons_zero, List.set_cons_succ]) | (refine wpQuiet_load_mid (by rfl) 113 (.tmp 138) rfl u (i * 48) rfl c2 _ (rangeAt_drewN r2) hu rfl hl2 ?_; simp only [Act.put, List.setIfInBounds_toArray, List.set_cons_zero, List.set_cons_succ]) | quiet_step (fail))
        refine wpQuiet_nil ?_
        rintro _ ⟨nq, rfl⟩
        have k7 : (wr.drewN nq).cell? ⟨u, i * 48 + 45, none⟩ = some (.int .u8 fl) := k6
        have hb7 : Below W5.heap.size W5 (wr.drewN nq) := HBR.out.trans ((below_drewN _ _).mono HBR.out.size)
        have ho7 : (wr.drewN nq).ownsRow W5.heap.size 32 1 u11 (ex (wtOf Wait) tt i).length (refs (ex (wtOf Wait) tt i)) := HOR.out
        obtain ⟨W7, hW7⟩ : ∃ W7, W7 = wr.drewN nq := ⟨_, rfl⟩
        rw [← hW7] at k7 hb7 ho7 ⊢
        have HB7 := Hid.mk hb7
        have HO7 := Hid.mk ho7
        have HIT := Hid.mk hit
        clear hW7 hb7 ho7 k1 k2 k3 k4 k5 k6 r1 r2 heq hit HBR HOR
        cases hw : wtOf Wait i
        · rw [hw] at hbit
          have hbit' : bits .and .u8 fl 1 = 0 := by simpa using hbit
          have HW := Hid.mk hw
          clear hbit hw
          go_wp2
          go_roundw
          case rel =>
            refine ⟨i + 1, by omega, by go_num, HB7.out, ?_⟩
            have e : ex (wtOf Wait) tt (i + 1) = ex (wtOf Wait) tt i := by simp [ex, HW.out]
            rw [e]
            exact HO7.out
          case measure => simp [intOf]; omega
        · rw [hw] at hbit
          have hbit' : bits .and .u8 fl 1 = 1 := by simpa using hbit
          have HW := Hid.mk hw
          clear hbit hw
          have hlen := ex_len (wtOf Wait) tt i
          go_wp2_with (at_builtin; refine wpList_append_own _ rfl (.tmp 184) (.tmp 188) 33 (by rfl) W5.heap.size 32 i0 (.int .u32 0) 1 4 Yba.underlying33 hi hz0 hz1 hz2 rfl (by decide) _ _ (refs (ex (wtOf Wait) tt i)) (by rfl) (HO7.out.alloc _) ⟨W7.heap.size, 0, none⟩ 1 1 [.int .u32 ((i : Int) + 1)] (by rfl) rfl (cell_one_new _ _ _) (one_ref _) ?c3 ?c4 ?c5 ?_)
          case c3 => unfold maxLen; omega
          case c4 => omega
          case c5 => have := HB7.out.size; simp; omega
          intro ev' w8 hown8 hgrow8 _
          have hb8 : Below W5.heap.size W5 w8 := (HB7.out.alloc (HB7.out.size) _).grown hgrow8 (by have := HB7.out.size; simp; omega) (fun q hq => (HO7.out.lt q hq).1)
          have HO8 := Hid.mk hown8
          have HB8 := Hid.mk hb8
          clear hown8 hgrow8 hb8 hlen
          go_wp2
          go_roundw
          case rel =>
            refine ⟨i + 1, by omega, by go_num, HB8.out, ?_⟩
            have e : ex (wtOf Wait) tt (i + 1) = ex (wtOf Wait) tt i ++ [i + 1] := by simp [ex, HW.out, HIT.out]
            rw [e, refs_snoc, List.length_append]
            exact HO8.out
          case measure => simp [intOf]; omega
    · have hik' : i = k := by omega
      subst hik'
      have p1 : ¬ (i : Int) < (i : Int) := by omega
      obtain ⟨E, hE⟩ : ∃ E, E = ex (wtOf Wait) tt i := ⟨_, rfl⟩
      have hor := HOR.out
      have hlk := HLK.out
      rw [← hE] at hor hlk
      have hEm : ∀ x ∈ E, 1 ≤ x ∧ x ≤ 8 := fun x hx => by rw [hE] at hx; have := ex_mem _ _ _ x hx; omega
      have hEl : E.length ≤ 8 := by rw [hE]; have := ex_len (wtOf Wait) tt i; omega
      obtain ⟨av, cv, hav, hcell⟩ := own_any hor
      subst hav
      have hMr := HM5.out.up HBR.out
      have c52 := hMr.mem.c52.1
      have c2 := hMr.mem.hd.1
      have c3 := hMr.mem.tl.1
      have HMR := Hid.mk hMr
      have HLK2 := Hid.mk hlk
      have HCELL := Hid.mk hcell
      have HEM := Hid.mk hEm
      clear hE hor hlk hMr hcell hEm HOR HLK hlt hik
      go_wp2_with fail
      obtain ⟨WA, hWA⟩ : ∃ WA, WA = wr.alloc (.cells #[.int .u32 (h' : Int), .int .u32 (t' : Int)] 128) := ⟨_, rfl⟩
      have hMA : Mn w WA n i u (idf Salt) R R' S h' t' En := by rw [hWA]; exact HMR.out.up ((Below.refl _ _).alloc (Nat.le_refl _) _)
      have HCA : Hid (∀ j, j < E.length → ∃ g, av = some ⟨g, 0, none⟩ ∧ WA.cell? ⟨g, j, none⟩ = (refs E)[j]?) := by
        intro j hj
        obtain ⟨g, h1, h2⟩ := HCELL.out j hj
        refine ⟨g, h1, ?_⟩
        have h3 : (refs E)[j]? = some (.int .u32 ((E[j] : Nat) : Int)) := by simp [refs, hj]
        rw [h3] at h2 ⊢
        rw [hWA, World.cell?_alloc_lt _ _ _ (World.block_lt_of_cell? wr _ h2)]
        exact h2
      have m1 : WA.cell? ⟨wr.heap.size, 1, none⟩ = some (.int .u32 (t' : Int)) := by rw [hWA, World.cell?_alloc_new]; rfl
      rw [← hWA]
      have HMA := Hid.mk hMA
      clear hWA hMA c52 c2 c3 HCELL
      go_loopw [15, 16, 17] (fun cv lv nv wy => ∃ j cur last : Nat, j ≤ E.length ∧ nv = .int .i64 (j : Int) ∧ cv = .int .u32 (cur : Int) ∧ lv = .int .u32 (last : Int) ∧ Lk R' last (E.drop j) cur t' ∧ wy = WA) (fun _ _ nv _ => E.length - (intOf nv).toNat)
      case atStart => exact ⟨0, h', 0, Nat.zero_le _, rfl, rfl, rfl, HLK2.out, rfl⟩
      case round =>
        obtain ⟨j, cur, last, hjE, rfl, rfl, rfl, hL, rfl⟩ := hrel
        clear HLK2
        by_cases hj : j < E.length
        · have z1 : (j : Int) < (E.length : Int) := by omega
          have z0 : (0 : Int) ≤ (j : Int) := by omega
          obtain ⟨g, hg, hcg⟩ := HCA.out j hj
          subst hg
          obtain ⟨x, hx⟩ : ∃ x, x = E[j] := ⟨_, rfl⟩
          have hcx : wr.cell? ⟨g, j, none⟩ = some (.int .u32 (x : Int)) := by rw [hcg, hx]; simp [refs, hj]
          have hxm := HEM.out x (by rw [hx]; exact List.getElem_mem hj)
          rw [List.drop_eq_getElem_cons hj, ← hx] at hL
          obtain ⟨e1, e2, e3⟩ := hL
          subst e1
          obtain ⟨i1, hi1⟩ : ∃ i1, i1 = cur - 1 := ⟨_, rfl⟩
          rw [← hi1] at e2 e3
          have hi18 : i1 < 8 := by omega
          have z2 : (cur : Int) - 1 = (i1 : Int) := by omega
          have z3 : (i1 : Int) < 1024 := by omega
          have z4 : (i1 : Int) % 4294967296 = (i1 : Int) := by omega
          have k1 : wr.cell? ⟨n + 3, i1 * 48 + 46, none⟩ = some (.int .u32 (last : Int)) := by have := (HMA.out.mem.pv i1 hi18).1; rw [e2] at this; exact this
          obtain ⟨nx, hnx⟩ : ∃ nx, nx = (R' i1).nx := ⟨_, rfl⟩
          have k2 : wr.cell? ⟨n + 3, i1 * 48 + 47, none⟩ = some (.int .u32 (nx : Int)) := by rw [hnx]; exact (HMA.out.mem.nx i1 hi18).1
          rw [← hnx] at e3
          have HE3 := Hid.mk e3
          clear hx hcg e2 e3 hi1 hnx hxm
          go_wp2
          go_roundw
          case rel => exact ⟨j + 1, nx, cur, by omega, by go_num, rfl, rfl, HE3.out, trivial⟩
          case measure => simp [intOf]; omega
        · have hj' : j = E.length := by omega
          have z1 : ¬ (j : Int) < (E.length : Int) := by omega
          rw [hj', List.drop_length] at hL
          obtain ⟨rfl, rfl⟩ := hL
          clear hj hjE
          go_wp2_with fail
          clear m1 z1 hj'
          obtain ⟨WB, hWB⟩ : ∃ WB : World, WB = wr := ⟨_, rfl⟩
          rw [← hWB] at HMA HCA ⊢
          clear hWB
          go_loopw [18] (fun iv wy => ∃ j : Nat, j ≤ i ∧ iv = .int .i64 (j : Int) ∧ Below WB.heap.size WB wy) (fun iv _ => i - (intOf iv).toNat)
          case atStart => exact ⟨0, Nat.zero_le _, rfl, Below.refl _ _⟩
          case round =>
            obtain ⟨j, hji, rfl, hby⟩ := hrel
            have HBY := Hid.mk hby
            by_cases hlt : j < i
            · have z1 : (j : Int) < (i : Int) := by omega
              have z0 : (0 : Int) ≤ (j : Int) := by omega
              have z2 : IntKind.i64.wrap ((j : Int) + 1) = (j : Int) + 1 := by rw [IntKind.wrap_i64]; omega
              obtain ⟨c2, hc2⟩ : ∃ c2, c2 = idList (idf Salt j) := ⟨_, rfl⟩
              have hl2 : (Yba.prog.info? 113).map (·.size) = some c2.length := by rw [hc2, idList_length]; exact info113
              have HA : Hid (idArr (idf Salt j) = c2.toArray) := by rw [hc2]; rfl
              have HF : Hid (∀ W, Below WB.heap.size WB W → W.rangeAt (n + 6) (j * 16) c2 ∧ Mem W n R' S h' t') := fun W hb => ⟨by
                have := (HMA.out.up hb).ids.at j hlt
                rw [← hc2] at this
                exact this, (HMA.out.up hb).mem⟩
              obtain ⟨d2, hP2⟩ := HPB.out.probe hk8 R' (fun q => (HRF.out q).1) j hlt
              have HP2 := Hid.mk hP2
              have hS0 : Below WB.heap.size WB wr ∧ wr.rangeAt (n + 6) (j * 16) c2 := ⟨hby, (HF.out wr hby).1⟩
              obtain ⟨r, hr⟩ : ∃ r, r = j + 1 := ⟨_, rfl⟩
              rw [← hr] at HP2
              have hrj : (r : Int) = (j : Int) + 1 := by omega
              have z3 : (j : Int) < 1024 := by omega
              have z4 : ((j : Int) + 1) % 4294967296 = (j : Int) + 1 := by omega
              have z5 : IntKind.u32.wrap ((j : Int) + 1) = (j : Int) + 1 := by
                have k1 : IntKind.u32.wrap ((j : Int) + 1) = ((j : Int) + 1) % 4294967296 := by simp [IntKind.wrap, IntKind.bits, IntKind.signed]
                rw [k1, z4]
              clear hr hc2 hP2 hby
              go_upto_region 41 with fail
              go_region_held3 (fun w' => Below WB.heap.size WB w' ∧ w'.rangeAt (n + 6) (j * 16) c2) (first | assumption | exact gs_drew (by assumption))
                ((go_at_call 6; refine (tfind_in HF HP2.out HA rfl _ (by assumption)).mono ?_; rintro e w9 ⟨rfl, hS9⟩))
              go_wp2
              refine ⟨⟨j + 1, by omega, by go_num, hS9.1⟩, ?_⟩
              simp [intOf]
              omega
            · have z1 : ¬ (j : Int) < (i : Int) := by omega
              clear hby
              go_wp2
              go_ret
              exact ⟨rfl, HMA.out.below.trans (HBY.out.mono HMA.out.below.size)⟩

end Go.Proofs.Ybulkatum.Ap
