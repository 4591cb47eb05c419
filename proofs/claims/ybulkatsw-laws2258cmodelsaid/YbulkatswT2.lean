import Derived.Test.YbulkatswAll
import Derived.Test.YbulkatswT3
import Derived.Deep.RegionLaw
namespace Go.Proofs.Ybulkatsw.Md
open Go Go.RowKit Mf Rw
set_option linter.unusedVariables false

set_option maxRecDepth 1000000 in
set_option maxHeartbeats 40000000 in
theorem t2 {σ : Nat → Nat} {w W : World} {G M Bh Be Bw Bq : Nat} {hv : Nat → Value} {has : Nat → Bool} {bh : Nat → Nat} {hasq : Nat → Bool} {bq : Nat → Nat} {qv mq : Nat → Nat → Value} {mh : Nat → Value} {A : St}
    (HAll : Hid (All σ W G M Bh Be Bw Bq hv has bh hasq bq qv mq mh A)) (HInv : Hid (Inv 1024 A)) (HH : Hid (HasH has A.hold)) (HQ : Hid (HasQ hasq A.qu)) (HEnd : Hid (∀ w', Grow σ W w' → Below w.heap.size w w'))
    (u0 u1 u2 u5 u6 u7 u8 u9 u10 u11 u12 u13 u14 u15 u16 u17 u18 u19 u20 u21 u22 u23 u24 u25 u26 u27 u28 u29 u30 u31 u32 u33 u34 u35 u36 u37 u38 u39 u40 u41 u42 u43 u44 u45 u46 u47 u48 u49 u50 u51 u52 u53 u54 u55 u56 u57 u58 u59 u60 u61 u62 u63 u64 u65 u66 u67 u68 u69 u70 u71 u72 u73 u74 u75 u76 u77 u78 u79 u80 u81 u82 u83 u84 u85 u86 u87 u88 u89 u90 u91 u92 u93 u94 u95 u96 u97 u98 u99 u100 u101 u102 u103 u104 u105 u106 u107 u108 u109 u110 u111 u112 u113 u114 u115 u116 u117 u118 u119 u120 u121 u122 u123 u124 u125 u126 u127 u128 u129 u130 u131 u132 u133 u134 u135 u136 u137 u138 u139 u140 u141 u142 u143 u144 u145 u146 u147 u148 u149 u150 u151 u152 u153 u154 u155 u156 u157 u158 u159 u160 u161 u162 u163 u164 u165 u166 u167 u168 u169 u170 u171 u172 u173 u174 u175 u176 u177 u178 u179 u180 u181 u182 u183 u184 u185 u186 u187 u188 u189 u190 u191 u192 u193 u194 u195 u196 u197 u198 u199 u200 u201 u202 u203 u204 u205 u206 u207 u208 u209 u210 u211 u212 u213 u214 u215 u216 u217 u218 u219 u220 u221 u222 u223 u224 u225 u226 u227 u228 u229 u230 u231 u232 u233 u234 u235 u236 u237 u238 u239 u240 u241 u242 u243 u244 u245 u246 u247 u248 u249 u250 u251 u252 u253 u254 u255 u256 u257 u258 u259 u260 u261 u262 u263 u264 u265 u266 u267 u268 u269 u270 u271 u272 u273 u274 u275 u276 u277 u278 u279 u280 u281 u282 u283 u284 u285 u286 u287 u288 u289 u290 u291 u292 u293 u294 u295 u296 u297 u298 u299 u300 u301 u302 u303 u304 u305 u306 u307 u308 u309 u310 u311 u312 u313 u314 u315 u316 u317 u318 u319 u320 u321 u322 u323 u324 u325 u326 u327 u328 u329 u330 u331 u332 u333 u334 u335 u336 u337 u338 u339 u340 u341 u342 u343 u344 u345 u346 u347 u348 u349 u350 u351 u352 u353 u354 u355 u356 u357 u358 u359 u360 u361 u362 u363 u364 u365 u366 u367 u368 u369 u370 u371 u372 u373 u374 u375 u376 u377 u378 u379 u380 u381 u382 u383 u384 u385 u386 u387 u388 u389 u390 u391 u392 u393 u394 u395 u396 u397 u398 u399 u400 u401 u402 u403 u404 u405 u406 u407 u408 u409 u410 u411 u412 u413 u414 u415 u416 u417 u418 u419 u420 u421 u422 u423 u424 u425 u426 u427 u428 u429 u430 u431 u432 u433 u434 u435 u436 u437 u438 u439 u440 u441 u442 u443 u444 u445 u446 u447 u448 u449 u450 u451 u452 u453 u454 u455 u456 u457 u458 u459 u460 u461 u462 u463 u464 u465 u466 u467 u468 u469 u470 u471 u472 u473 u474 u475 u476 u477 u478 u479 u480 u481 u482 u483 u484 u485 u486 u487 u488 u489 u490 : Value) (wi : World) (hgi0 : Grow σ W wi) :
    Code.wp Yba.prog rest36 (bodyPost Yba.prog Yba.f5 fun e w' => e = .returned (.bool true) ∧ Below w.heap.size w w') ⟨#[u0, u1, u2, .pointer (some ⟨G, 0, none⟩), .pointer (some ⟨M, 0, none⟩), u5, u6, u7, u8, u9, u10, u11, u12, u13, u14, u15, u16, u17, u18, u19, u20, u21, u22, u23, u24, u25, u26, u27, u28, u29, u30, u31, u32, u33, u34, u35, u36, u37, u38, u39, u40, u41, u42, u43, u44, u45, u46, u47, u48, u49, u50, u51, u52, u53, u54, u55, u56, u57, u58, u59, u60, u61, u62, u63, u64, u65, u66, u67, u68, u69, u70, u71, u72, u73, u74, u75, u76, u77, u78, u79, u80, u81, u82, u83, u84, u85, u86, u87, u88, u89, u90, u91, u92, u93, u94, u95, u96, u97, u98, u99, u100, u101, u102, u103, u104, u105, u106, u107, u108, u109, u110, u111, u112, u113, u114, u115, u116, u117, u118, u119, u120, u121, u122, u123, u124, u125, u126, u127, u128, u129, u130, u131, u132, u133, u134, u135, u136, u137, u138, u139, u140, u141, u142, u143, u144, u145, u146, u147, u148, u149, u150, u151, u152, u153, u154, u155, u156, u157, u158, u159, u160, u161, u162, u163, u164, u165, u166, u167, u168, u169, u170, u171, u172, u173, u174, u175, u176, u177, u178, u179, u180, u181, u182, u183, u184, u185, u186, u187, u188, u189, u190, u191, u192, u193, u194, u195, u196, u197, u198, u199, u200, u201, u202, u203, u204, u205, u206, u207, u208, u209, u210, u211, u212, u213, u214, u215, u216, u217, u218, u219, u220, u221, u222, u223, u224, u225, u226, u227, u228, u229, u230, u231, u232, u233, u234, u235, u236, u237, u238, u239, u240, u241, u242, u243, u244, u245, u246, u247, u248, u249, u250, u251, u252, u253, u254, u255, u256, u257, u258, u259, u260, u261, u262, u263, u264, u265, u266, u267, u268, u269, u270, u271, u272, u273, u274, u275, u276, u277, u278, u279, u280, u281, u282, u283, u284, u285, u286, u287, u288, u289, u290, u291, u292, u293, u294, u295, u296, u297, u298, u299, u300, u301, u302, u303, u304, u305, u306, u307, u308, u309, u310, u311, u312, u313, u314, u315, u316, u317, u318, u319, u320, u321, u322, u323, u324, u325, u326, u327, u328, u329, u330, u331, u332, u333, u334, u335, u336, u337, u338, u339, u340, u341, u342, u343, u344, u345, u346, u347, u348, u349, u350, u351, u352, u353, u354, u355, u356, u357, u358, u359, u360, u361, u362, u363, u364, u365, u366, u367, u368, u369, u370, u371, u372, u373, u374, u375, u376, u377, u378, u379, u380, u381, u382, u383, u384, u385, u386, u387, u388, u389, u390, u391, u392, u393, u394, u395, u396, u397, u398, u399, u400, u401, u402, u403, u404, u405, u406, u407, u408, u409, u410, u411, u412, u413, u414, u415, u416, u417, u418, u419, u420, u421, u422, u423, u424, u425, u426, u427, u428, u429, u430, u431, u432, u433, u434, u435, u436, u437, u438, u439, u440, u441, u442, u443, u444, u445, u446, u447, u448, u449, u450, u451, u452, u453, u454, u455, u456, u457, u458, u459, u460, u461, u462, u463, u464, u465, u466, u467, u468, u469, u470, u471, u472, u473, u474, u475, u476, u477, u478, u479, u480, u481, u482, u483, u484, u485, u486, u487, u488, u489, u490], []⟩ wi := by
  conv => arg 2; whnf
  go_upto_region 38 with fail
  obtain ⟨fW, hfW⟩ : ∃ fW, (fun t => (A.wt t).map reqV) = fW := ⟨_, rfl⟩
  obtain ⟨fE, hfE⟩ : ∃ fE, (fun t => if A.held t = [] then none else some (hv t)) = fE := ⟨_, rfl⟩
  have HfW := Hid.mk hfW
  have HfE := Hid.mk hfE
  clear hfW hfE
  go_loopw [13, 14, 15] (fun nw nh iv wq => ∃ t : Nat, t ≤ 3 ∧ iv = .int .i64 (t : Int) ∧ nw = .int .i64 (cnt t fW : Int) ∧ nh = .int .i64 (cnt t fE : Int) ∧ Grow σ W wq) (fun _ _ iv _ => 3 - (intOf iv).toNat)
  case atStart => exact ⟨0, by omega, rfl, rfl, rfl, hgi0⟩
  case round =>
    obtain ⟨t, ht3, rfl, rfl, rfl, hgr⟩ := hrel
    have HG := Hid.mk hgr
    clear hgr
    by_cases ht : t < 3
    · have t1 : (t : Int) < 3 := by omega
      have t0 : (0 : Int) ≤ (t : Int) := by omega
      have et : IntKind.i64.wrap ((t : Int) + 1) = (t : Int) + 1 := by rw [IntKind.wrap_i64]; omega
      obtain ⟨nW, hnW⟩ : ∃ nW, cnt t fW = nW := ⟨_, rfl⟩
      obtain ⟨nE, hnE⟩ : ∃ nE, cnt t fE = nE := ⟨_, rfl⟩
      have lW : (nW : Int) ≤ 3 := by have := cnt_le t fW; omega
      have lE : (nE : Int) ≤ 3 := by have := cnt_le t fE; omega
      rw [hnW, hnE]
      have eW : IntKind.i64.wrap ((nW : Int) + 1) = (nW : Int) + 1 := by rw [IntKind.wrap_i64]; omega
      have eE : IntKind.i64.wrap ((nE : Int) + 1) = (nE : Int) + 1 := by rw [IntKind.wrap_i64]; omega
      have sW := cnt_succ t fW
      have sE := cnt_succ t fE
      rw [hnW] at sW
      rw [hnE] at sE
      have HsW := Hid.mk sW
      have HsE := Hid.mk sE
      clear hnW hnE sW sE
      obtain ⟨b, R, Q, O, s1, s2, hwt⟩ := Wt.get (A.wt t)
      have hA := HAll.out.grow HG.out
      have c0 := (hA.mp.mc.wt t ht 0 (by omega)).1
      have c1 := (hA.mp.mc.wt t ht 1 (by omega)).1
      have c2 := (hA.mp.mc.wt t ht 2 (by omega)).1
      have c3 := (hA.mp.mc.wt t ht 3 (by omega)).1
      rw [hwt.wc0] at c0
      rw [hwt.wc1] at c1
      rw [hwt.wc2] at c2
      rw [hwt.wc3] at c3
      simp only [Nat.add_zero] at c0
      have g3 := hA.g.wt.1
      obtain ⟨Tw, hTw⟩ : ∃ Tw, wr.heap.size = Tw := ⟨_, rfl⟩
      obtain ⟨wa, hwa⟩ : ∃ wa, wr.alloc (.cells #[.bool b, .int .i64 R, .int .i64 Q, .int .i64 O] 36) = wa := ⟨_, rfl⟩
      have fa : Grow σ wr wa := by rw [← hwa]; exact Fr.alloc _ _ _ _
      have hAa := hA.grow fa
      have hlk := hAa.wp.look ht
      rw [hwt.req, ← hwt.some] at hlk
      have ga3 := hAa.g.wt.1
      obtain ⟨wb, hwb⟩ : ∃ wb, wa.alloc (.cells #[.string s1, .string s2, .int .i64 O] 68) = wb := ⟨_, rfl⟩
      have fb : Grow σ wa wb := by rw [← hwb]; exact Fr.alloc _ _ _ _
      have sza : wa.heap.size = Tw + 1 := by rw [← hwa]; simp [hTw]
      have n0 := (Cell.new wr #[.bool b, .int .i64 R, .int .i64 Q, .int .i64 O] 36 0 (.bool b) rfl).1
      have n1 := (Cell.new wr #[.bool b, .int .i64 R, .int .i64 Q, .int .i64 O] 36 1 (.int .i64 R) rfl).1
      have n2 := (Cell.new wr #[.bool b, .int .i64 R, .int .i64 Q, .int .i64 O] 36 2 (.int .i64 Q) rfl).1
      have n3 := (Cell.new wr #[.bool b, .int .i64 R, .int .i64 Q, .int .i64 O] 36 3 (.int .i64 O) rfl).1
      rw [hwa, hTw] at n0 n1 n2 n3
      have o0 := (Cell.new wa #[.string s1, .string s2, .int .i64 O] 68 0 (.string s1) rfl).1
      have o1 := (Cell.new wa #[.string s1, .string s2, .int .i64 O] 68 1 (.string s2) rfl).1
      have o2 := (Cell.new wa #[.string s1, .string s2, .int .i64 O] 68 2 (.int .i64 O) rfl).1
      rw [hwb, sza] at o0 o1 o2
      have n0 := fb.cell n0
      have n1 := fb.cell n1
      have n2 := fb.cell n2
      have n3 := fb.cell n3
      have fwb : Grow σ W wb := (HG.out.trans fa).trans fb
      have HIW : Hid (Calls Yba.prog 15 #[.pointer (some ⟨G, 0, none⟩), .string (tx t)] wb.drew fun e w' => e = .returned (.bool b) ∧ Grow σ wb.drew w') := isWaiting_grow (HAll.out.grow (fwb.trans (Fr.drew _ _ _))) ht hwt.some
      have HF := Hid.mk fwb
      have HWt := Hid.mk hwt
      clear hA hAa fa fb fwb hwt
      go_upto_region 43 with (go_at_call 11; refine (tx_in t _).mono ?_; rintro e w5 ⟨rfl, rfl⟩)
      go_region_held3 (fun w' => w'.cell? ⟨Tw, 0, none⟩ = some (.bool b)) (first | exact n0 | assumption) ((go_at_call 15; refine HIW.out.mono ?_; rintro e w5 ⟨rfl, hg5⟩; have q5 := hg5.cell (show wb.drew.cell? ⟨Tw, 0, none⟩ = some (.bool b) from n0); have Hg5 := Hid.mk hg5; clear hg5))
      have F5 : Grow σ W w5 := (HF.out.trans (Fr.drew _ _ _)).trans Hg5.out
      have p1 := Hg5.out.cell (show wb.drew.cell? _ = _ from n1)
      have p2 := Hg5.out.cell (show wb.drew.cell? _ = _ from n2)
      have p3 := Hg5.out.cell (show wb.drew.cell? _ = _ from n3)
      have r0 := Hg5.out.cell (show wb.drew.cell? _ = _ from o0)
      have r1 := Hg5.out.cell (show wb.drew.cell? _ = _ from o1)
      have r2 := Hg5.out.cell (show wb.drew.cell? _ = _ from o2)
      have HF5 := Hid.mk F5
      clear F5 n0 n1 n2 n3 o0 o1 o2 Hg5 HIW HF HG c0 c1 c2 c3 g3 ga3 hlk hwa hwb
      go_upto_if 232 with fail
      go_cut [13] from 232 to 255 (fun s13 wx => s13 = .int .i64 (cnt (t + 1) fW : Int) ∧ Grow σ W wx)
      case first =>
        have efW : (fW t).isSome = b := by rw [← HfW.out, HWt.out.some]; simp
        cases b with
        | false =>
          have e13 : cnt (t + 1) fW = nW := by rw [HsW.out, efW]; simp
          have He := Hid.mk e13
          clear efW e13
          go_wp2
          go_meet
          case rel => exact ⟨by rw [He.out], HF5.out⟩
        | true =>
          have e13 : cnt (t + 1) fW = nW + 1 := by rw [HsW.out, efW]; simp
          have He := Hid.mk e13
          obtain ⟨r, m, rfl, rfl, rfl, rfl⟩ := HWt.out.on rfl
          clear efW e13 HWt
          go_wp2
          go_region_held3 (fun w' => w'.cell? ⟨Tw + 1, 0, none⟩ = some (.string (res r)) ∧ w'.cell? ⟨Tw + 1, 1, none⟩ = some (.string (md m)) ∧ w'.cell? ⟨Tw + 1, 2, none⟩ = some (.int .i64 O) ∧ w'.cell? ⟨Tw, 1, none⟩ = some (.int .i64 (r : Int)) ∧ w'.cell? ⟨Tw, 2, none⟩ = some (.int .i64 (m : Int)) ∧ w'.cell? ⟨Tw, 3, none⟩ = some (.int .i64 O))
            (exact ⟨r0, r1, r2, p1, p2, p3⟩) (first | (go_at_call 12; refine (res_in r _).mono ?_; rintro e w6 ⟨rfl, rfl⟩) | (go_at_call 13; refine (md_in m _).mono ?_; rintro e w6 ⟨rfl, rfl⟩))
          go_wp2
          go_meet
          case rel => exact ⟨congrArg (Value.int .i64) (by rw [He.out]; omega), HF5.out.trans (Fr.drew _ _ _)⟩
      case rest =>
        obtain ⟨rfl, hgc⟩ := hcut
        have HGc := Hid.mk hgc
        have hA := HAll.out.grow hgc
        have hl2 := hA.ep.look_ok ht
        obtain ⟨b2, hb2⟩ : ∃ b2, decide (A.held t ≠ []) = b2 := ⟨_, rfl⟩
        have eo := (hA.mp.mc.on t ht).1
        rw [hb2] at hl2 eo
        have g2 := hA.g.e.1
        have ee := (hA.mp.mc.e t ht).1
        obtain ⟨a1, c1, hv1, _, _⟩ := (hA.ep.vals t ht).shape
        obtain ⟨a2, c2, hv2, _, _⟩ := (hA.mp.es t ht).shape
        obtain ⟨kk, hkk⟩ : ∃ kk, (A.held t).length = kk := ⟨_, rfl⟩
        rw [strs_length, hkk] at hv1
        have hl1 : (ints (nats (A.held t))).length = kk := by simp [ints, nats, hkk]
        rw [hl1] at hv2
        rw [hv1] at hl2
        rw [hv2] at ee
        have hk1 : (kk : Int) ≤ 1024 := by have := HInv.out.heldLen t; omega
        have efE : (fE t).isSome = b2 := by rw [← HfE.out, ← hb2]; by_cases e : A.held t = [] <;> simp [e]
        have Hv1 := Hid.mk hv1
        have Hv2 := Hid.mk hv2
        have Hkk := Hid.mk hkk
        have He2 : Hid (cnt (t + 1) fE = nE + (if b2 = true then 1 else 0)) := Hid.mk (by rw [HsE.out, efE])
        clear hA hgc efE hb2 hv1 hv2 hkk hl1 HF5 p1 p2 p3 r0 r1 r2 q5 HWt HsE HsW
        go_upto_if 273 with fail
        go_cut [14] from 273 to 275 (fun s14 wx => s14 = .int .i64 (cnt (t + 1) fE : Int) ∧ wx = wc)
        case first =>
          cases b2 with
          | false =>
            go_wp2
            go_meet
            case rel => exact ⟨congrArg (Value.int .i64) (by rw [He2.out]; simp), rfl⟩
          | true =>
            go_wp2
            go_meet
            case rel => exact ⟨congrArg (Value.int .i64) (by rw [He2.out]; simp), rfl⟩
        case rest =>
          obtain ⟨rfl, rfl⟩ := hcut
          clear hl2 eo g2
          go_upto_region 57 with fail
          go_loopw [288] (fun iv wq => ∃ i : Nat, i ≤ kk ∧ iv = .int .i64 (i : Int) ∧ Grow σ W wq) (fun iv _ => kk - (intOf iv).toNat)
          case atStart => exact ⟨0, by omega, rfl, HGc.out⟩
          case round =>
            obtain ⟨i, hik, rfl, hgi⟩ := hrel
            have HGi := Hid.mk hgi
            by_cases hil : i < kk
            · have y1 : (i : Int) < (kk : Int) := by omega
              have y0 : (0 : Int) ≤ (i : Int) := by omega
              have ei : IntKind.i64.wrap ((i : Int) + 1) = (i : Int) + 1 := by rw [IntKind.wrap_i64]; omega
              have hA := HAll.out.grow hgi
              have hjl : i < (A.held t).length := by have := Hkk.out; omega
              obtain ⟨rj, hrj⟩ : ∃ rj, (A.held t)[i]? = some rj := ⟨_, List.getElem?_eq_getElem hjl⟩
              have hne : A.held t ≠ [] := by intro e; rw [e] at hjl; simp at hjl
              obtain ⟨g, go1, gc1, cur, hw1, _, hg, _, _, _, htk⟩ := (hA.ep.vals t ht).pos (by simpa [strs] using hne)
              obtain ⟨g', go2, gc2, cur', hw2, _, hg', _, _, _, htk'⟩ := (hA.mp.es t ht).pos (by simpa [ints, nats] using hne)
              rw [Hv1.out] at hw1
              rw [Hv2.out] at hw2
              injection hw1 with ea eb ec
              injection hw2 with ea' eb' ec'
              subst ea
              subst ea'
              clear eb ec eb' ec'
              have x1 : wr.cell? ⟨g, go1 + i, none⟩ = some (.string (res rj)) := cell_in hg htk i _ (by simp [strs, hrj])
              have x2 : wr.cell? ⟨g', go2 + i, none⟩ = some (.int .i64 (rj : Int)) := cell_in hg' htk' i _ (by simp [ints, nats, hrj])
              have x3 := (hA.mp.mc.e t ht).1
              rw [Hv2.out] at x3
              clear hA hgi hg hg' htk htk' hrj hne
              go_wp2
              go_region_held3 (fun w' => w'.cell? ⟨g, go1 + i, none⟩ = some (.string (res rj)) ∧ w'.cell? ⟨g', go2 + i, none⟩ = some (.int .i64 (rj : Int)) ∧ w'.cell? ⟨M, 27 + t, none⟩ = some (.slice (some ⟨g', go2, none⟩) kk c2))
                (exact ⟨x1, x2, x3⟩) ((go_at_call 12; refine (res_in rj _).mono ?_; rintro e w6 ⟨rfl, rfl⟩))
              go_wp2
              refine ⟨⟨i + 1, by omega, by go_num, HGi.out.trans (Fr.drew _ _ _)⟩, ?_⟩
              simp [intOf]
              omega
            · have y1 : ¬ (i : Int) < (kk : Int) := by omega
              clear hgi
              go_wp2
              refine ⟨⟨t + 1, by omega, by go_num, rfl, rfl, HGi.out⟩, ?_⟩
              simp [intOf]
              omega
    · have t1 : ¬ (t : Int) < 3 := by omega
      have hteq : t = 3 := by omega
      have hA := HAll.out.grow HG.out
      have hlw := hA.wp.map.len txN Yba.underlying63 3
      have hle := hA.ep.map.len txN Yba.underlying62 3
      rw [HfW.out] at hlw
      rw [HfE.out] at hle
      have g3 := hA.g.wt.1
      have g2 := hA.g.e.1
      obtain ⟨nW, hnW⟩ : ∃ nW, cnt t fW = nW := ⟨_, rfl⟩
      obtain ⟨nE, hnE⟩ : ∃ nE, cnt t fE = nE := ⟨_, rfl⟩
      have e3W : cnt 3 fW = nW := by rw [← hteq]; exact hnW
      have e3E : cnt 3 fE = nE := by rw [← hteq]; exact hnE
      rw [e3W] at hlw
      rw [e3E] at hle
      rw [hnW, hnE]
      clear hA HfW HfE hteq hnW hnE e3W e3E
      go_upto_if 322 with fail
      go_cut [] from 307 to 322 (fun wx => Grow σ W wx)
      case first =>
        go_wp2
        go_meet
        case rel => exact HG.out
      case rest =>
        rename_i hK
        exact hK _ _ (t3 HAll HInv HH HQ HEnd _ _ _ _ _ _ _ _ _ _ _ _ _ _ _ _ _ _ _ _ _ _ _ _ _ _ _ _ _ _ _ _ _ _ _ _ _ _ _ _ _ _ _ _ _ _ _ _ _ _ _ _ _ _ _ _ _ _ _ _ _ _ _ _ _ _ _ _ _ _ _ _ _ _ _ _ _ _ _ _ _ _ _ _ _ _ _ _ _ _ _ _ _ _ _ _ _ _ _ _ _ _ _ _ _ _ _ _ _ _ _ _ _ _ _ _ _ _ _ _ _ _ _ _ _ _ _ _ _ _ _ _ _ _ _ _ _ _ _ _ _ _ _ _ _ _ _ _ _ _ _ _ _ _ _ _ _ _ _ _ _ _ _ _ _ _ _ _ _ _ _ _ _ _ _ _ _ _ _ _ _ _ _ _ _ _ _ _ _ _ _ _ _ _ _ _ _ _ _ _ _ _ _ _ _ _ _ _ _ _ _ _ _ _ _ _ _ _ _ _ _ _ _ _ _ _ _ _ _ _ _ _ _ _ _ _ _ _ _ _ _ _ _ _ _ _ _ _ _ _ _ _ _ _ _ _ _ _ _ _ _ _ _ _ _ _ _ _ _ _ _ _ _ _ _ _ _ _ _ _ _ _ _ _ _ _ _ _ _ _ _ _ _ _ _ _ _ _ _ _ _ _ _ _ _ _ _ _ _ _ _ _ _ _ _ _ _ _ _ _ _ _ _ _ _ _ _ _ _ _ _ _ _ _ _ _ _ _ _ _ _ _ _ _ _ _ _ _ _ _ _ _ _ _ _ _ _ _ _ _ _ _ _ _ _ _ _ _ _ _ _ _ _ _ _ _ _ _ _ _ _ _ _ _ _ _ _ _ _ _ _ _ _ _ _ _ _ _ _ _ _ _ _ _ _ _ _ _ _ _ _ _ _ _ _ _ _ _ _ _ _ _ _ _ _ _ _ _ _ _ _ _ _ _ _ _ _ _ _ _ _ _ _ _ _ _ _ _ _ _ _ _ _ _ _ _ _ _ _ _ _ _ _ _ _ _ _ _ _ _ _ _ _ _ _ _ _ _ _ _ _ _ _ _ _ _ _ _ _ wc hcut)

end Go.Proofs.Ybulkatsw.Md
