import Derived.Test.YbulkatumState
import Derived.Deep.CutBlock
namespace Go.Proofs.Ybulkatum.Ap
open Go.RowKit
set_option linter.unusedVariables false

def wtOf (Wait : Nat) (i : Nat) : Bool := bits .and .u16 ((Wait : Int) / 2 ^ i) 1 == 1
def flOf (Wait Reopen : Nat) (i : Nat) : Int := (if wtOf Reopen i then 2 else 0) + (if wtOf Wait i then 1 else 0)

def setIdR (R : Nat → Row) (i : Nat) (f : Nat → UInt8) : Nat → Row := fun j => if j = i then { R j with id := f } else R j
theorem Mem.setIdR {w : World} {n : Nat} {R : Nat → Row} {S : Nat → Nat} {h t : Nat} (m : Mem w n R S h t) (i : Nat) (f : Nat → UInt8) (hi : i < 8) : Mem (w.setCells (n + 3) (i * 48) (idList f)) n (setIdR R i f) S h t :=
  m.setId i _ hi (idList_length f) (fun j hj => by simp [Ap.setIdR, hj]) (fun c hc => by simp only [Ap.setIdR, if_true, rowCell]; rw [if_neg (show ¬ c < 16 by omega), if_neg (show ¬ c < 16 by omega)]) (fun c hc => by rw [idList_get f c hc]; simp [Ap.setIdR, rowCell, hc])
theorem Mem.setGrp {w : World} {n : Nat} {R : Nat → Row} {S : Nat → Nat} {h t : Nat} (m : Mem w n R S h t) (i : Nat) (hi : i < 8) : Mem (w.setCell ⟨n + 3, i * 48 + 40, none⟩ (.int .u32 0)) n R S h t :=
  m.setRow i 40 _ hi (by omega) (fun _ _ => rfl) (fun _ _ _ => rfl) rfl

theorem setFl_same (R : Nat → Row) (i : Nat) (v : Int) (h : (R i).fl = v) : setFl R i v = R := by
  funext j
  unfold setFl
  split
  · rename_i e
    subst e
    cases hR : R j
    rw [hR] at h
    simp only at h
    rw [h]
  · rfl

theorem row_off (R : Nat → Row) (i : Nat) (f : Nat → UInt8) (c e v : Int) (hz : R i = Row.zero) : setFl (setEn (setChk (setIdR R i f) i c) i e) i v = putRow R i ⟨f, e, c, v, 0, 0⟩ := by
  funext j
  by_cases h : j = i
  · subst h
    simp [setFl, setEn, setChk, setIdR, putRow, hz, Row.zero]
  · simp [setFl, setEn, setChk, setIdR, putRow, h]
theorem row_on (R : Nat → Row) (i t : Nat) (f : Nat → UInt8) (c e v v' : Int) (hz : R i = Row.zero) : setPv (setFl (setFl (setEn (setChk (setIdR R i f) i c) i e) i v) i v') i t = putRow R i ⟨f, e, c, v', t, 0⟩ := by
  funext j
  by_cases h : j = i
  · subst h
    simp [setPv, setFl, setEn, setChk, setIdR, putRow, hz, Row.zero]
  · simp [setPv, setFl, setEn, setChk, setIdR, putRow, h]

theorem idArr_idf (Salt i : Nat) (hi : i < 8) : #[Value.int .u8 ((i : Int) * (Salt : Int) % 256), .int .u8 ((i : Int) + 1), .int .u8 0, .int .u8 0, .int .u8 0, .int .u8 0, .int .u8 0, .int .u8 0, .int .u8 0, .int .u8 0, .int .u8 0, .int .u8 0, .int .u8 0, .int .u8 0, .int .u8 0, .int .u8 ((i : Int) + 1)] = (idList (idf Salt i)).toArray := by
  have e1 : (((idf Salt i 0).toNat : Nat) : Int) = (i : Int) * (Salt : Int) % 256 := by simp [idf]
  have e2 : (((idf Salt i 1).toNat : Nat) : Int) = (i : Int) + 1 := by simp [idf]; omega
  have e3 : (((idf Salt i 15).toNat : Nat) : Int) = (i : Int) + 1 := by simp [idf]; omega
  rw [idArr_eq, idArr, e1, e2, e3]
  rfl

set_option maxRecDepth 20000 in
set_option maxHeartbeats 1600000 in
theorem build_any (K Sel Salt Wait Reopen Checks : Nat) (En : Int) (w : World) (h1 : K < 256) (h2 : Salt < 256) (h3 : Wait < 65536) (h4 : Reopen < 65536) (h5 : Checks < 4294967296) (k : Nat) (hk : k = K % 8 + 1) :
    Calls Yba.prog 4 #[.agg #[.int .u8 (K : Int), .int .u8 (Sel : Int), .int .u8 (Salt : Int), .int .u16 (Wait : Int), .int .u16 (Reopen : Int), .int .u32 (Checks : Int), .int .i64 En]] w fun e w' =>
      e = .returned (.tuple #[.pointer (some ⟨w.heap.size + 2, 0, none⟩), .slice (some ⟨w.heap.size + 6, 0, none⟩) k k, .int .i64 (k : Int)]) ∧ ∃ R S h t, Bx (w.alloc (.cells #[.int .u8 (K : Int), .int .u8 (Sel : Int), .int .u8 (Salt : Int), .int .u16 (Wait : Int), .int .u16 (Reopen : Int), .int .u32 (Checks : Int), .int .i64 En] 25)) w' w.heap.size k k (idf Salt) R S h t ∧ PB Salt Checks (wtOf Wait) (flOf Wait Reopen) k R S h t := by
  have hk' : (K : Int) % 8 + 1 = (k : Int) := by omega
  have hk8 : k ≤ 8 := by omega
  have HK := Hid.mk hk
  clear hk
  obtain ⟨BB, b1, b2, b3, hbuild⟩ := build108 (w.heap.size + 1)
  have hm33 := make33
  have hm27 := make27 k hk8
  go_enter Yba.func4, Yba.ntmps4
  go_upto_region 3 with (first | (refine wpList_build_as rfl 130 _ rfl [(0, .string ⟨#[112]⟩)] rfl _ built130 ?_) | (refine wpList_build_as rfl 108 _ rfl [(20, .slice (some ⟨w.heap.size + 1, 0, none⟩) 1 1)] rfl BB hbuild ?_))
  clear hbuild
  go_wp2_with fail
  show Code.wp Yba.prog _ _ _ (startW w _ BB k)
  simp only [Nat.add_assoc, Nat.reduceAdd]
  have HB0 := start_bx w #[.int .u8 (K : Int), .int .u8 (Sel : Int), .int .u8 (Salt : Int), .int .u16 (Wait : Int), .int .u16 (Reopen : Int), .int .u32 (Checks : Int), .int .i64 En] BB k (idf Salt) b1 b2 b3
  obtain ⟨W0, hW0⟩ : ∃ W0, W0 = startW w #[.int .u8 (K : Int), .int .u8 (Sel : Int), .int .u8 (Salt : Int), .int .u16 (Wait : Int), .int .u16 (Reopen : Int), .int .u32 (Checks : Int), .int .i64 En] BB k := ⟨_, rfl⟩
  rw [← hW0] at HB0 ⊢
  clear hW0 hm33 hm27 b1 b2 b3
  obtain ⟨WB, hWB⟩ : ∃ WB, WB = (w.alloc (.cells #[.int .u8 (K : Int), .int .u8 (Sel : Int), .int .u8 (Salt : Int), .int .u16 (Wait : Int), .int .u16 (Reopen : Int), .int .u32 (Checks : Int), .int .i64 En] 25)) := ⟨_, rfl⟩
  have x2 : WB.cell? ⟨w.heap.size, 2, none⟩ = some (.int .u8 (Salt : Int)) := by rw [hWB, World.cell?_alloc_new]; rfl
  have x3 : WB.cell? ⟨w.heap.size, 3, none⟩ = some (.int .u16 (Wait : Int)) := by rw [hWB, World.cell?_alloc_new]; rfl
  have x4 : WB.cell? ⟨w.heap.size, 4, none⟩ = some (.int .u16 (Reopen : Int)) := by rw [hWB, World.cell?_alloc_new]; rfl
  have x5 : WB.cell? ⟨w.heap.size, 5, none⟩ = some (.int .u32 (Checks : Int)) := by rw [hWB, World.cell?_alloc_new]; rfl
  rw [← hWB] at HB0
  have HWB := Hid.mk hWB
  have HX : Hid (∀ W, Below (w.heap.size + 1) WB W → W.cell? ⟨w.heap.size, 2, none⟩ = some (.int .u8 (Salt : Int)) ∧ W.cell? ⟨w.heap.size, 3, none⟩ = some (.int .u16 (Wait : Int)) ∧ W.cell? ⟨w.heap.size, 4, none⟩ = some (.int .u16 (Reopen : Int)) ∧ W.cell? ⟨w.heap.size, 5, none⟩ = some (.int .u32 (Checks : Int))) := by
    intro W hb
    rw [hb.cell (p := ⟨w.heap.size, 2, none⟩) (by simp), hb.cell (p := ⟨w.heap.size, 3, none⟩) (by simp), hb.cell (p := ⟨w.heap.size, 4, none⟩) (by simp), hb.cell (p := ⟨w.heap.size, 5, none⟩) (by simp)]
    exact ⟨x2, x3, x4, x5⟩
  clear hWB x2 x3 x4 x5 hk'
  go_loopw [9, 10] (fun pv iv wr => ∃ (i : Nat) (R : Nat → Row) (S : Nat → Nat) (h t : Nat), i ≤ k ∧ iv = .int .i64 (i : Int) ∧ pv = .int .u32 (t : Int) ∧ Bx WB wr w.heap.size k i (idf Salt) R S h t ∧ PB Salt Checks (wtOf Wait) (flOf Wait Reopen) i R S h t) (fun _ iv _ => k - (intOf iv).toNat)
  case atStart => exact ⟨0, _, _, _, _, Nat.zero_le _, rfl, rfl, HB0, PB.start _ _ _ _⟩
  case round =>
    obtain ⟨i, R, S, h, t, hik, rfl, rfl, hBx, hPB⟩ := hrel
    clear HB0
    have HBX := Hid.mk hBx
    have HPB := Hid.mk hPB
    by_cases hlt : i < k
    · have q1 : (i : Int) < (k : Int) := by omega
      have hi8 : i < 8 := by omega
      have hn7 : w.heap.size < wr.heap.size := by have := hBx.size; omega
      obtain ⟨x2, x3, x4, x5⟩ := HX.out wr hBx.below
      clear hBx hPB x3 x4 x5
      go_upto_region 16 with fail
      rw [idArr_idf Salt i hi8]
      obtain ⟨cs, hcs⟩ : ∃ cs, cs = idList (idf Salt i) := ⟨_, rfl⟩
      have hl : cs.length = 16 := by rw [hcs]; exact idList_length _
      have hi1 : (Yba.prog.info? 113).map (·.size) = some cs.length := by rw [hl]; exact info113
      have hi2 : (Yba.prog.info? 113).map (·.size) = some cs.toArray.size := by rw [List.size_toArray]; exact hi1
      have hu := Yba.underlying113
      have ho1 : cs.toArray.all (·.oneCell') = true := by rw [hcs]; exact all_oneCell_toArray (idList_one _)
      rw [← hcs]
      have hB1 := HBX.out.alloc (.cells cs.toArray 113)
      have hr1 : (wr.alloc (.cells cs.toArray 113)).rangeAt wr.heap.size 0 cs := fun j v hv => by rw [Nat.zero_add, World.cell?_alloc_new]; simpa using hv
      have hm7 : w.heap.size + 7 ≤ wr.heap.size := HBX.out.size
      obtain ⟨m, hm⟩ : ∃ m, m = wr.heap.size := ⟨_, rfl⟩
      obtain ⟨W1, hW1⟩ : ∃ W1, W1 = wr.alloc (.cells cs.toArray 113) := ⟨_, rfl⟩
      rw [← hW1] at hB1 hr1 ⊢
      rw [← hm] at hr1 hm7 ⊢
      have HCS := Hid.mk hcs
      clear hcs hm hW1 x2 hn7 HBX wr
      have hl' : cs.toArray.size = 16 := by simpa using hl
      have hth1 : W1.there (w.heap.size + 6) (i * 16) cs.toArray.size := by rw [hl']; exact hB1.there i hlt
      go_upto_region 17 with (first | (refine wpList_load_mid rfl 113 (.tmp 11) rfl m 0 rfl cs _ hr1 hu rfl hi1 ?_) | (refine wpList_store_mid rfl 113 (.tmp 67) (.tmp 66) rfl (w.heap.size + 6) (i * 16) cs.toArray rfl rfl hth1 hi2 ho1 ?_; simp only [Act.put]))
      have hB2 : Bx WB (W1.setCells (w.heap.size + 6) (i * 16) cs) w.heap.size k (i + 1) (idf Salt) R S h t := by have := hB1.setIds hlt; rw [← HCS.out] at this; exact this
      have hr2 : (W1.setCells (w.heap.size + 6) (i * 16) cs).rangeAt m 0 cs := (Touch.sets _ _ _ _).range hr1 (by omega)
      obtain ⟨W2, hW2⟩ : ∃ W2, W2 = W1.setCells (w.heap.size + 6) (i * 16) cs := ⟨_, rfl⟩
      rw [← hW2] at hB2 hr2 ⊢
      clear hW2 hB1 hr1 hth1 W1
      have hth2 : W2.there (w.heap.size + 3) (i * 48) cs.toArray.size := by rw [hl']; exact fun c hc => ⟨by rw [(hB2.mem.rows i hi8 c (by omega)).1]; rfl, (hB2.mem.rows i hi8 c (by omega)).2⟩
      have q3 : (i : Int) < 1024 := by omega
      go_upto_region 20 with (first | (refine wpList_load_mid rfl 113 (.tmp 11) rfl m 0 rfl cs _ hr2 hu rfl hi1 ?_) | (refine wpList_store_mid rfl 113 (.tmp 78) (.tmp 76) rfl (w.heap.size + 3) (i * 48) cs.toArray rfl rfl hth2 hi2 ho1 ?_; simp only [Act.put]))
      have hB3 : Bx WB (W2.setCells (w.heap.size + 3) (i * 48) cs) w.heap.size k (i + 1) (idf Salt) (setIdR R i (idf Salt i)) S h t := hB2.touch (Touch.sets _ _ _ _) (by omega) (by omega) (by have := hB2.mem.setIdR i (idf Salt i) hi8; rw [← HCS.out] at this; exact this)
      have hr3 : (W2.setCells (w.heap.size + 3) (i * 48) cs).rangeAt m 0 cs := (Touch.sets _ _ _ _).range hr2 (by omega)
      obtain ⟨W3, hW3⟩ : ∃ W3, W3 = W2.setCells (w.heap.size + 3) (i * 48) cs := ⟨_, rfl⟩
      rw [← hW3] at hB3 hr3 ⊢
      clear hW3 hB2 hr2 hth2 W2
      obtain ⟨R3, hR3⟩ : ∃ R3, R3 = setIdR R i (idf Salt i) := ⟨_, rfl⟩
      rw [← hR3] at hB3
      have HR3 := Hid.mk hR3
      obtain ⟨x2, x3, x4, x5⟩ := HX.out W3 hB3.below
      have c38 := (hB3.mem.chk i hi8).1
      have d38 := (hB3.mem.chk i hi8).2
      have c34 := (hB3.mem.en i hi8).1
      have d34 := (hB3.mem.en i hi8).2
      have c40 := (hB3.mem.grp i hi8).1
      have d40 := (hB3.mem.grp i hi8).2
      have HB3 := Hid.mk hB3
      have HR3r := Hid.mk hr3
      clear hR3 hB3 hr3 x2
      go_upto_if 100 with fail
      clear c38 d38 c34 d34 c40 d40 x3 x4 x5
      have hB4 : Bx WB (((W3.setCell ⟨w.heap.size + 3, i * 48 + 38, none⟩ (.int .u32 (((Checks : Int) + (i : Int)) % 4294967296))).setCell ⟨w.heap.size + 3, i * 48 + 34, none⟩ (.int .i64 (i : Int))).setCell ⟨w.heap.size + 3, i * 48 + 40, none⟩ (.int .u32 0)) w.heap.size k (i + 1) (idf Salt) (setEn (setChk R3 i (((Checks : Int) + (i : Int)) % 4294967296)) i (i : Int)) S h t :=
        HB3.out.touch (((Touch.set _ _ _ _).trans (Touch.set _ _ _ _)).trans (Touch.set _ _ _ _)) (by omega) (by omega) (((HB3.out.mem.setChk i _ hi8).setEn i _ hi8).setGrp i hi8)
      have hr4 : (((W3.setCell ⟨w.heap.size + 3, i * 48 + 38, none⟩ (.int .u32 (((Checks : Int) + (i : Int)) % 4294967296))).setCell ⟨w.heap.size + 3, i * 48 + 34, none⟩ (.int .i64 (i : Int))).setCell ⟨w.heap.size + 3, i * 48 + 40, none⟩ (.int .u32 0)).rangeAt m 0 cs :=
        (((Touch.set _ _ _ _).trans (Touch.set _ _ _ _)).trans (Touch.set _ _ _ _)).range HR3r.out (by omega)
      obtain ⟨W4, hW4⟩ : ∃ W4, W4 = (((W3.setCell ⟨w.heap.size + 3, i * 48 + 38, none⟩ (.int .u32 (((Checks : Int) + (i : Int)) % 4294967296))).setCell ⟨w.heap.size + 3, i * 48 + 34, none⟩ (.int .i64 (i : Int))).setCell ⟨w.heap.size + 3, i * 48 + 40, none⟩ (.int .u32 0)) := ⟨_, rfl⟩
      rw [← hW4] at hB4 hr4 ⊢
      clear hW4 HB3 HR3r
      obtain ⟨R4, hR4⟩ : ∃ R4, R4 = setEn (setChk R3 i (((Checks : Int) + (i : Int)) % 4294967296)) i (i : Int) := ⟨_, rfl⟩
      rw [← hR4] at hB4
      have hf4 : (R4 i).fl = 0 := by
        rw [hR4, HR3.out]
        simp [setEn, setChk, setIdR, HPB.out.zero i (Nat.le_refl _), Row.zero]
      have HR4 := Hid.mk hR4
      have HB4 := Hid.mk hB4
      have HRr4 := Hid.mk hr4
      have c45 : W4.cell? ⟨w.heap.size + 3, i * 48 + 45, none⟩ = some (.int .u8 0) := by have := (hB4.mem.fl i hi8).1; rw [hf4] at this; exact this
      have d45 := (hB4.mem.fl i hi8).2
      have HF4 := Hid.mk hf4
      clear hR4 hB4 hr4 hf4
      go_cut [] from 100 to 107 (fun wx => Bx WB wx w.heap.size k (i + 1) (idf Salt) (setFl R4 i (if wtOf Reopen i then 2 else 0)) S h t ∧ wx.rangeAt m 0 cs)
      case first =>
        cases hbit : (bits .and .u16 ((Reopen : Int) / 2 ^ i) 1 == 1)
        · have hbit' : (bits .and .u16 ((Reopen : Int) / 2 ^ i) 1 == 1) = false := hbit
          go_wp2
          go_meet
          case rel =>
            rw [wtOf, hbit', setFl_same _ _ _ (by simpa using HF4.out)]
            exact ⟨HB4.out, HRr4.out⟩
        · have hbit' : (bits .and .u16 ((Reopen : Int) / 2 ^ i) 1 == 1) = true := hbit
          have hor : bits .or .u8 0 2 = 2 := by decide
          go_wp2
          go_meet
          case rel =>
            rw [wtOf, hbit', if_pos rfl]
            exact ⟨HB4.out.touch (Touch.set _ _ _ _) (by omega) (by omega) (HB4.out.mem.setFl i 2 hi8), (Touch.set _ _ _ _).range HRr4.out (by omega)⟩
      case rest =>
        obtain ⟨hB5, hr5⟩ := hcut
        clear c45 d45 HB4 HRr4
        obtain ⟨W5, hW5⟩ : ∃ W5 : World, W5 = wc := ⟨_, rfl⟩
        rw [← hW5] at hB5 hr5 ⊢
        clear hW5
        obtain ⟨fl0, hfl0⟩ : ∃ fl0 : Int, fl0 = (if wtOf Reopen i then 2 else 0) := ⟨_, rfl⟩
        rw [← hfl0] at hB5
        have hor : bits .or .u8 fl0 1 = fl0 + 1 := by
          rw [hfl0]
          split
          · decide
          · decide
        have HFL0 := Hid.mk hfl0
        have c45 : W5.cell? ⟨w.heap.size + 3, i * 48 + 45, none⟩ = some (.int .u8 fl0) := by have := (hB5.mem.fl i hi8).1; simp only [setFl, if_true] at this; exact this
        have d45 := (hB5.mem.fl i hi8).2
        have c46 := (hB5.mem.pv i hi8).1
        have d46 := (hB5.mem.pv i hi8).2
        obtain ⟨x2, x3, x4, x5⟩ := HX.out W5 hB5.below
        have HB5 := Hid.mk hB5
        have HRr5 := Hid.mk hr5
        clear hfl0 hB5 hr5 x2 x4 x5
        have hzi : R i = Row.zero := HPB.out.zero i (Nat.le_refl _)
        have HZI := Hid.mk hzi
        clear hzi
        go_upto_if 114 with fail
        clear x3
        go_cut [9] from 114 to 151 (fun s9 wx => s9 = .int .u32 (stepT (wtOf Wait) i t : Int) ∧ Bx WB wx w.heap.size k (i + 1) (idf Salt) (stepR Salt Checks (wtOf Wait) (flOf Wait Reopen) i t R) S (stepH (wtOf Wait) i h t) (stepT (wtOf Wait) i t) ∧ wx.rangeAt m 0 cs)
        case first =>
          cases hbit : (bits .and .u16 ((Wait : Int) / 2 ^ i) 1 == 1)
          · have hbit' : (bits .and .u16 ((Wait : Int) / 2 ^ i) 1 == 1) = false := hbit
            have hw : wtOf Wait i = false := hbit
            have HW := Hid.mk hw
            clear hw
            go_wp2
            go_meet
            case rel =>
              have e1 : stepT (wtOf Wait) i t = t := by simp [stepT, HW.out]
              have e2 : stepH (wtOf Wait) i h t = h := by simp [stepH, HW.out]
              have e3 : stepR Salt Checks (wtOf Wait) (flOf Wait Reopen) i t R = setFl R4 i fl0 := by
                rw [HR4.out, HR3.out, row_off _ _ _ _ _ _ HZI.out]
                simp [stepR, HW.out, newRow, flOf, HFL0.out]
              rw [e1, e2, e3]
              exact ⟨rfl, HB5.out, HRr5.out⟩
          · have hbit' : (bits .and .u16 ((Wait : Int) / 2 ^ i) 1 == 1) = true := hbit
            have hw : wtOf Wait i = true := hbit
            have HW := Hid.mk hw
            clear hw
            obtain ⟨htl, hte⟩ := HPB.out.tl_le
            have e1 : stepT (wtOf Wait) i t = i + 1 := by simp [stepT, HW.out]
            have hM5 := (HB5.out.mem.setFl i (fl0 + 1) hi8).setPv i t hi8
            have hT5 : Touch (w.heap.size + 3) W5 ((W5.setCell ⟨w.heap.size + 3, i * 48 + 45, none⟩ (.int .u8 (fl0 + 1))).setCell ⟨w.heap.size + 3, i * 48 + 46, none⟩ (.int .u32 (t : Int))) := (Touch.set _ _ _ _).trans (Touch.set _ _ _ _)
            have e4 : setPv (setFl (setFl R4 i fl0) i (fl0 + 1)) i t = putRow R i (newRow Salt Checks (wtOf Wait) (flOf Wait Reopen) i t) := by
              rw [HR4.out, HR3.out, row_on _ _ _ _ _ _ _ _ HZI.out]
              simp [HW.out, newRow, flOf, HFL0.out]
            rw [e4] at hM5
            have c52 := HB5.out.mem.c52.1
            have c2 := HB5.out.mem.hd.1
            have d2 := HB5.out.mem.hd.2
            have c3 := HB5.out.mem.tl.1
            have d3 := HB5.out.mem.tl.2
            have HM5 := Hid.mk hM5
            have HT5 := Hid.mk hT5
            have HE1 := Hid.mk e1
            have HE4 := Hid.mk e4
            have ei : ((i + 1 : Nat) : Int) = (i : Int) + 1 := by omega
            have HEI := Hid.mk ei
            clear hM5 hT5 e1 e4 hte ei
            by_cases ht0 : t ≤ 0
            · have tb : ((t : Int) == 0) = true := by simp; omega
              have ht0' : t = 0 := by omega
              have HT0 := Hid.mk ht0'
              clear ht0' ht0
              go_wp2
              go_meet
              case rel =>
                have e2 : stepH (wtOf Wait) i h t = i + 1 := by simp [stepH, HW.out, HT0.out]
                have e3 : stepR Salt Checks (wtOf Wait) (flOf Wait Reopen) i t R = putRow R i (newRow Salt Checks (wtOf Wait) (flOf Wait Reopen) i t) := by simp [stepR, HT0.out]
                have b1 := HB5.out.touch HT5.out (by omega) (by omega) HM5.out
                have m2 := (HM5.out.setHd (i + 1)).setTl (i + 1)
                rw [HEI.out] at m2
                have u2 := (Touch.set ((W5.setCell ⟨w.heap.size + 3, i * 48 + 45, none⟩ (.int .u8 (fl0 + 1))).setCell ⟨w.heap.size + 3, i * 48 + 46, none⟩ (.int .u32 (t : Int))) (w.heap.size + 1) 2 (.int .u32 ((i : Int) + 1))).trans (Touch.set _ (w.heap.size + 1) 3 (.int .u32 ((i : Int) + 1)))
                rw [HE1.out, e2, e3]
                exact ⟨by rw [HEI.out], b1.touch u2 (by omega) (by omega) m2, u2.range (HT5.out.range HRr5.out (by omega)) (by omega)⟩
            · obtain ⟨j, hj⟩ : ∃ j, t = j + 1 := ⟨t - 1, by omega⟩
              have tb : ((t : Int) == 0) = false := by simp; omega
              have hsub : (t : Int) - 1 = (j : Int) := by omega
              have hj8 : j < 8 := by omega
              have hj8' : (j : Int) < 1024 := by omega
              have hjw : (j : Int) % 4294967296 = (j : Int) := by omega
              have hji : j ≠ i := by omega
              have c47 := (HB5.out.mem.nx j hj8).1
              have d47 := (HB5.out.mem.nx j hj8).2
              have HJ := Hid.mk hj
              clear hj ht0 htl
              go_wp2
              go_meet
              case rel =>
                have e2 : stepH (wtOf Wait) i h t = h := by simp [stepH, HJ.out]
                have e3 : stepR Salt Checks (wtOf Wait) (flOf Wait Reopen) i t R = setNx (putRow R i (newRow Salt Checks (wtOf Wait) (flOf Wait Reopen) i t)) j (i + 1) := by simp [stepR, HJ.out, HW.out]
                have m1 := HM5.out.setNx j (i + 1) hj8
                rw [HEI.out] at m1
                have u1 := HT5.out.trans (Touch.set _ (w.heap.size + 3) (j * 48 + 47) (.int .u32 ((i : Int) + 1)))
                have b1 := HB5.out.touch u1 (by omega) (by omega) m1
                have m2 := m1.setTl (i + 1)
                rw [HEI.out] at m2
                have u2 := Touch.set (((W5.setCell ⟨w.heap.size + 3, i * 48 + 45, none⟩ (.int .u8 (fl0 + 1))).setCell ⟨w.heap.size + 3, i * 48 + 46, none⟩ (.int .u32 (t : Int))).setCell ⟨w.heap.size + 3, j * 48 + 47, none⟩ (.int .u32 ((i : Int) + 1))) (w.heap.size + 1) 3 (.int .u32 ((i : Int) + 1))
                rw [HE1.out, e2, e3]
                exact ⟨by rw [HEI.out], b1.touch u2 (by omega) (by omega) m2, u2.range (u1.range HRr5.out (by omega)) (by omega)⟩
        case rest =>
          obtain ⟨rfl, hB6, hr6⟩ := hcut
          clear c45 d45 c46 d46 HB5 HRr5
          obtain ⟨W6, hW6⟩ : ∃ W6 : World, W6 = wc := ⟨_, rfl⟩
          rw [← hW6] at hB6 hr6 ⊢
          clear hW6
          obtain ⟨R6, hR6⟩ : ∃ R6, R6 = stepR Salt Checks (wtOf Wait) (flOf Wait Reopen) i t R := ⟨_, rfl⟩
          obtain ⟨h6, hh6⟩ : ∃ h6, h6 = stepH (wtOf Wait) i h t := ⟨_, rfl⟩
          obtain ⟨t6, ht6⟩ : ∃ t6, t6 = stepT (wtOf Wait) i t := ⟨_, rfl⟩
          rw [← hR6, ← hh6, ← ht6] at hB6
          rw [← ht6]
          obtain ⟨x, hx⟩ : ∃ x, x = le8 (idf Salt i) := ⟨_, rfl⟩
          have hand : bits .and .u64 (x : Int) 15 = ((x % 16 : Nat) : Int) := by rw [hx]; exact and15 _ (le8_lt _)
          obtain ⟨p, hp⟩ : ∃ p, p = x % 16 := ⟨_, rfl⟩
          rw [← hp] at hand
          obtain ⟨d, hd, h0, hne⟩ := free_from S x (by rw [HPB.out.num]; omega)
          have HST : Hid (PB Salt Checks (wtOf Wait) (flOf Wait Reopen) (i + 1) R6 (upd S ((x + d) % 16) (i + 1)) h6 t6) := by
            rw [hR6, hh6, ht6, hx]
            rw [hx] at h0 hne
            exact HPB.out.step hi8 d hd h0 hne
          have hhome := home_at (idf Salt i) W6
          rw [← HCS.out, ← hx] at hhome
          have HHM := Hid.mk hhome
          have HPP := Hid.mk hp
          have HD := Hid.mk hd
          have H00 := Hid.mk h0
          have HNE := Hid.mk hne
          have HB6 := Hid.mk hB6
          clear hhome hp hx hR6 hh6 ht6 hd h0 hne hB6
          go_wp2_with (first | (refine wpList_load_mid rfl 113 (.tmp 11) rfl m 0 rfl cs _ hr6 hu rfl hi1 ?_) | (go_at_call 7; refine HHM.out.mono ?_; rintro e w7 ⟨rfl, hb7⟩; have HB7 := Hid.mk (HB6.out.up hb7); clear hb7))
          clear hr6
          go_loopg [14] d (fun g jv wi => ∃ e, e ≤ d ∧ g = d - e ∧ jv = .int .u64 (((x + e) % 16 : Nat) : Int) ∧ wi = w7)
          case atStart => exact ⟨0, Nat.zero_le _, by omega, by rw [HPP.out]; rfl, rfl⟩
          case round =>
            obtain ⟨e, hed, hgk, rfl, hwi⟩ := hrel
            subst hwi
            have HGK := Hid.mk hgk
            obtain ⟨q, hq⟩ : ∃ q, q = (x + e) % 16 := ⟨_, rfl⟩
            rw [← hq]
            have hq16 : q < 16 := by omega
            have hq16' : (q : Int) < 16 := by omega
            obtain ⟨r', hr'⟩ : ∃ r', r' = S q := ⟨_, rfl⟩
            have c47 := HB7.out.mem.c47.1
            have cq : wr.cell? ⟨w.heap.size + 5, q, none⟩ = some (.int .u32 (r' : Int)) := by rw [hr']; exact (HB7.out.mem.slots q hq16).1
            have dq := (HB7.out.mem.slots q hq16).2
            have HQ := Hid.mk hq
            have HR' := Hid.mk hr'
            clear hgk hq hr'
            by_cases hlt2 : e < d
            · have hne := HNE.out e hlt2
              rw [← HQ.out, ← HR'.out] at hne
              have tb : ((r' : Int) == 0) = false := by simp; omega
              obtain ⟨q', hq'⟩ : ∃ q', q' = (q + 1) % 16 := ⟨_, rfl⟩
              have hand' : bits .and .u64 ((q : Int) + 1) 15 = (q' : Int) := by rw [hq']; exact and15 (q + 1) (by omega)
              have HQ' := Hid.mk hq'
              clear hq' hne
              go_wp2
              go_roundg (d - (e + 1))
              case measure => have := HGK.out; omega
              case rel => exact ⟨e + 1, by omega, rfl, by rw [HQ'.out, HQ.out]; congr 2; omega, rfl⟩
            · have hde : e = d := by omega
              subst hde
              have h00 := H00.out
              rw [← HQ.out, ← HR'.out] at h00
              have tb : ((r' : Int) == 0) = true := by simp; omega
              obtain ⟨xc, hxc⟩ := HB7.out.mem.c48
              have c48 := hxc.1
              have d48 := hxc.2
              clear h00 hxc hlt2 hed
              go_wp2
              have m1 := HB7.out.mem.setSlot q (i + 1) hq16
              have ei : ((i + 1 : Nat) : Int) = (i : Int) + 1 := by omega
              rw [ei] at m1
              have b1 := HB7.out.touch (Touch.set _ _ _ _) (by omega) (by omega) m1
              have b2 := b1.touch (Touch.set _ _ _ _) (by omega) (by omega) (m1.setCount (wrap64 (xc + 1)))
              have hst := HST.out
              rw [← HQ.out] at hst
              refine ⟨⟨i + 1, R6, _, h6, t6, by omega, by rw [ei], rfl, b2, hst⟩, ?_⟩
              simp [intOf]
              omega
    · have hik' : i = k := by omega
      subst hik'
      have q1 : ¬ (i : Int) < (i : Int) := by omega
      clear hBx hPB
      go_wp2
      go_ret3
      rw [← HWB.out]
      exact ⟨rfl, R, S, h, t, HBX.out, HPB.out⟩

end Go.Proofs.Ybulkatum.Ap
