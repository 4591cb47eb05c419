import Derived.Test.YbulkatswAll
import Derived.Test.YbulkatswTail
import Derived.Deep.RegionLaw
namespace Go.Proofs.Ybulkatsw.Md
open Go Go.RowKit Mf Rw
set_option linter.unusedVariables false

set_option maxRecDepth 1000000 in
set_option maxHeartbeats 40000000 in
theorem t3 {σ : Nat → Nat} {w W : World} {G M Bh Be Bw Bq : Nat} {hv : Nat → Value} {has : Nat → Bool} {bh : Nat → Nat} {hasq : Nat → Bool} {bq : Nat → Nat} {qv mq : Nat → Nat → Value} {mh : Nat → Value} {A : St}
    (HAll : Hid (All σ W G M Bh Be Bw Bq hv has bh hasq bq qv mq mh A)) (HInv : Hid (Inv 1024 A)) (HH : Hid (HasH has A.hold)) (HQ : Hid (HasQ hasq A.qu)) (HEnd : Hid (∀ w', Grow σ W w' → Below w.heap.size w w'))
    (u0 u1 u2 u5 u6 u7 u8 u9 u10 u11 u12 u13 u14 u15 u16 u17 u18 u19 u20 u21 u22 u23 u24 u25 u26 u27 u28 u29 u30 u31 u32 u33 u34 u35 u36 u37 u38 u39 u40 u41 u42 u43 u44 u45 u46 u47 u48 u49 u50 u51 u52 u53 u54 u55 u56 u57 u58 u59 u60 u61 u62 u63 u64 u65 u66 u67 u68 u69 u70 u71 u72 u73 u74 u75 u76 u77 u78 u79 u80 u81 u82 u83 u84 u85 u86 u87 u88 u89 u90 u91 u92 u93 u94 u95 u96 u97 u98 u99 u100 u101 u102 u103 u104 u105 u106 u107 u108 u109 u110 u111 u112 u113 u114 u115 u116 u117 u118 u119 u120 u121 u122 u123 u124 u125 u126 u127 u128 u129 u130 u131 u132 u133 u134 u135 u136 u137 u138 u139 u140 u141 u142 u143 u144 u145 u146 u147 u148 u149 u150 u151 u152 u153 u154 u155 u156 u157 u158 u159 u160 u161 u162 u163 u164 u165 u166 u167 u168 u169 u170 u171 u172 u173 u174 u175 u176 u177 u178 u179 u180 u181 u182 u183 u184 u185 u186 u187 u188 u189 u190 u191 u192 u193 u194 u195 u196 u197 u198 u199 u200 u201 u202 u203 u204 u205 u206 u207 u208 u209 u210 u211 u212 u213 u214 u215 u216 u217 u218 u219 u220 u221 u222 u223 u224 u225 u226 u227 u228 u229 u230 u231 u232 u233 u234 u235 u236 u237 u238 u239 u240 u241 u242 u243 u244 u245 u246 u247 u248 u249 u250 u251 u252 u253 u254 u255 u256 u257 u258 u259 u260 u261 u262 u263 u264 u265 u266 u267 u268 u269 u270 u271 u272 u273 u274 u275 u276 u277 u278 u279 u280 u281 u282 u283 u284 u285 u286 u287 u288 u289 u290 u291 u292 u293 u294 u295 u296 u297 u298 u299 u300 u301 u302 u303 u304 u305 u306 u307 u308 u309 u310 u311 u312 u313 u314 u315 u316 u317 u318 u319 u320 u321 u322 u323 u324 u325 u326 u327 u328 u329 u330 u331 u332 u333 u334 u335 u336 u337 u338 u339 u340 u341 u342 u343 u344 u345 u346 u347 u348 u349 u350 u351 u352 u353 u354 u355 u356 u357 u358 u359 u360 u361 u362 u363 u364 u365 u366 u367 u368 u369 u370 u371 u372 u373 u374 u375 u376 u377 u378 u379 u380 u381 u382 u383 u384 u385 u386 u387 u388 u389 u390 u391 u392 u393 u394 u395 u396 u397 u398 u399 u400 u401 u402 u403 u404 u405 u406 u407 u408 u409 u410 u411 u412 u413 u414 u415 u416 u417 u418 u419 u420 u421 u422 u423 u424 u425 u426 u427 u428 u429 u430 u431 u432 u433 u434 u435 u436 u437 u438 u439 u440 u441 u442 u443 u444 u445 u446 u447 u448 u449 u450 u451 u452 u453 u454 u455 u456 u457 u458 u459 u460 u461 u462 u463 u464 u465 u466 u467 u468 u469 u470 u471 u472 u473 u474 u475 u476 u477 u478 u479 u480 u481 u482 u483 u484 u485 u486 u487 u488 u489 u490 : Value) (wi : World) (hgi0 : Grow σ W wi) :
    Code.wp Yba.prog rest64 (bodyPost Yba.prog Yba.f5 fun e w' => e = .returned (.bool true) ∧ Below w.heap.size w w') ⟨#[u0, u1, u2, .pointer (some ⟨G, 0, none⟩), .pointer (some ⟨M, 0, none⟩), u5, u6, u7, u8, u9, u10, u11, u12, u13, u14, u15, u16, u17, u18, u19, u20, u21, u22, u23, u24, u25, u26, u27, u28, u29, u30, u31, u32, u33, u34, u35, u36, u37, u38, u39, u40, u41, u42, u43, u44, u45, u46, u47, u48, u49, u50, u51, u52, u53, u54, u55, u56, u57, u58, u59, u60, u61, u62, u63, u64, u65, u66, u67, u68, u69, u70, u71, u72, u73, u74, u75, u76, u77, u78, u79, u80, u81, u82, u83, u84, u85, u86, u87, u88, u89, u90, u91, u92, u93, u94, u95, u96, u97, u98, u99, u100, u101, u102, u103, u104, u105, u106, u107, u108, u109, u110, u111, u112, u113, u114, u115, u116, u117, u118, u119, u120, u121, u122, u123, u124, u125, u126, u127, u128, u129, u130, u131, u132, u133, u134, u135, u136, u137, u138, u139, u140, u141, u142, u143, u144, u145, u146, u147, u148, u149, u150, u151, u152, u153, u154, u155, u156, u157, u158, u159, u160, u161, u162, u163, u164, u165, u166, u167, u168, u169, u170, u171, u172, u173, u174, u175, u176, u177, u178, u179, u180, u181, u182, u183, u184, u185, u186, u187, u188, u189, u190, u191, u192, u193, u194, u195, u196, u197, u198, u199, u200, u201, u202, u203, u204, u205, u206, u207, u208, u209, u210, u211, u212, u213, u214, u215, u216, u217, u218, u219, u220, u221, u222, u223, u224, u225, u226, u227, u228, u229, u230, u231, u232, u233, u234, u235, u236, u237, u238, u239, u240, u241, u242, u243, u244, u245, u246, u247, u248, u249, u250, u251, u252, u253, u254, u255, u256, u257, u258, u259, u260, u261, u262, u263, u264, u265, u266, u267, u268, u269, u270, u271, u272, u273, u274, u275, u276, u277, u278, u279, u280, u281, u282, u283, u284, u285, u286, u287, u288, u289, u290, u291, u292, u293, u294, u295, u296, u297, u298, u299, u300, u301, u302, u303, u304, u305, u306, u307, u308, u309, u310, u311, u312, u313, u314, u315, u316, u317, u318, u319, u320, u321, u322, u323, u324, u325, u326, u327, u328, u329, u330, u331, u332, u333, u334, u335, u336, u337, u338, u339, u340, u341, u342, u343, u344, u345, u346, u347, u348, u349, u350, u351, u352, u353, u354, u355, u356, u357, u358, u359, u360, u361, u362, u363, u364, u365, u366, u367, u368, u369, u370, u371, u372, u373, u374, u375, u376, u377, u378, u379, u380, u381, u382, u383, u384, u385, u386, u387, u388, u389, u390, u391, u392, u393, u394, u395, u396, u397, u398, u399, u400, u401, u402, u403, u404, u405, u406, u407, u408, u409, u410, u411, u412, u413, u414, u415, u416, u417, u418, u419, u420, u421, u422, u423, u424, u425, u426, u427, u428, u429, u430, u431, u432, u433, u434, u435, u436, u437, u438, u439, u440, u441, u442, u443, u444, u445, u446, u447, u448, u449, u450, u451, u452, u453, u454, u455, u456, u457, u458, u459, u460, u461, u462, u463, u464, u465, u466, u467, u468, u469, u470, u471, u472, u473, u474, u475, u476, u477, u478, u479, u480, u481, u482, u483, u484, u485, u486, u487, u488, u489, u490], []⟩ wi := by
  conv => arg 2; whnf
  go_upto_region 66 with fail
  obtain ⟨fH, hfH⟩ : ∃ fH, (fun r => if has r = true then some (Value.map (some (bh r))) else none) = fH := ⟨_, rfl⟩
  obtain ⟨fQ, hfQ⟩ : ∃ fQ, (fun r => if hasq r = true then some (Value.map (some (bq r))) else none) = fQ := ⟨_, rfl⟩
  have HfH := Hid.mk hfH
  have HfQ := Hid.mk hfQ
  clear hfH hfQ
  go_loopw [23, 24, 25] (fun nh nq iv wq => ∃ r : Nat, r ≤ 3 ∧ iv = .int .i64 (r : Int) ∧ nh = .int .i64 (cnt r fH : Int) ∧ nq = .int .i64 (cnt r fQ : Int) ∧ Grow σ W wq) (fun _ _ iv _ => 3 - (intOf iv).toNat)
  case atStart => exact ⟨0, by omega, rfl, rfl, rfl, hgi0⟩
  case round =>
    obtain ⟨r, hr3, rfl, rfl, rfl, hgr⟩ := hrel
    have HG := Hid.mk hgr
    have hA := HAll.out.grow hgr
    by_cases hr : r < 3
    · have r1 : (r : Int) < 3 := by omega
      have r0 : (0 : Int) ≤ (r : Int) := by omega
      have er : IntKind.i64.wrap ((r : Int) + 1) = (r : Int) + 1 := by rw [IntKind.wrap_i64]; omega
      obtain ⟨nH, hnH⟩ : ∃ nH, cnt r fH = nH := ⟨_, rfl⟩
      obtain ⟨nQ, hnQ⟩ : ∃ nQ, cnt r fQ = nQ := ⟨_, rfl⟩
      have lH : (nH : Int) ≤ 3 := by have := cnt_le r fH; omega
      have lQ : (nQ : Int) ≤ 3 := by have := cnt_le r fQ; omega
      rw [hnH, hnQ]
      have eH : IntKind.i64.wrap ((nH : Int) + 1) = (nH : Int) + 1 := by rw [IntKind.wrap_i64]; omega
      have eQ : IntKind.i64.wrap ((nQ : Int) + 1) = (nQ : Int) + 1 := by rw [IntKind.wrap_i64]; omega
      have HsH : Hid (cnt (r + 1) fH = nH + (if has r = true then 1 else 0)) := Hid.mk (by rw [cnt_succ, hnH, ← HfH.out]; cases hx : has r <;> simp [hx])
      have HsQ : Hid (cnt (r + 1) fQ = nQ + (if hasq r = true then 1 else 0)) := Hid.mk (by rw [cnt_succ, hnQ, ← HfQ.out]; cases hx : hasq r <;> simp [hx])
      clear hnH hnQ
      -- the counts of this resource
      obtain ⟨cH, hcH⟩ : ∃ cH, cnt 3 (hmap A.hold r) = cH := ⟨_, rfl⟩
      obtain ⟨cQ, hcQ⟩ : ∃ cQ, cnt 2 (qmap qv A.qu r) = cQ := ⟨_, rfl⟩
      have lcH : (cH : Int) ≤ 3 := by have := cnt_le 3 (hmap A.hold r); omega
      have lcQ : (cQ : Int) ≤ 2 := by have := cnt_le 2 (qmap qv A.qu r); omega
      have HhH : Hid (has r = true ↔ 0 < cH) := Hid.mk (by
        rw [HH.out r hr, ← hcH, cntH]
        by_cases a0 : A.hold r 0 ≠ 0
        · rw [if_pos a0]; constructor
          · intro _; omega
          · intro _; exact .inl a0
        · by_cases a1 : A.hold r 1 ≠ 0
          · rw [if_pos a1]; constructor
            · intro _; omega
            · intro _; exact .inr (.inl a1)
          · by_cases a2 : A.hold r 2 ≠ 0
            · rw [if_pos a2]; constructor
              · intro _; omega
              · intro _; exact .inr (.inr a2)
            · rw [if_neg a0, if_neg a1, if_neg a2]; constructor
              · rintro (h | h | h)
                · exact absurd h a0
                · exact absurd h a1
                · exact absurd h a2
              · intro h; omega)
      have HhQ : Hid (hasq r = true ↔ 0 < cQ) := Hid.mk (by
        rw [HQ.out r hr, ← hcQ, cntQ]
        by_cases a0 : A.qu r 0 ≠ []
        · rw [if_pos a0]; constructor
          · intro _; omega
          · intro _; exact .inl a0
        · by_cases a1 : A.qu r 1 ≠ []
          · rw [if_pos a1]; constructor
            · intro _; omega
            · intro _; exact .inr a1
          · rw [if_neg a0, if_neg a1]; constructor
            · rintro (h | h)
              · exact absurd h a0
              · exact absurd h a1
            · intro h; omega)
      have HcH := Hid.mk hcH
      have HcQ := Hid.mk hcQ
      clear hcH hcQ
      obtain ⟨bH, hbH⟩ : ∃ bH, has r = bH := ⟨_, rfl⟩
      obtain ⟨bQ, hbQ⟩ : ∃ bQ, hasq r = bQ := ⟨_, rfl⟩
      obtain ⟨vH, hvH⟩ : ∃ v, hmapV has bh r = v := ⟨_, rfl⟩
      obtain ⟨vQ, hvQ⟩ : ∃ v, hmapV hasq bq r = v := ⟨_, rfl⟩
      have lkH := hA.hp.lookR hr
      have lnH := hA.hp.lenV hr
      have lkQ := hA.qp.lookR hr
      have lnQ := hA.qp.lenV hr
      rw [hvH, hbH] at lkH
      rw [hvH, HcH.out] at lnH
      rw [hvQ, hbQ] at lkQ
      rw [hvQ, HcQ.out] at lnQ
      have g1 := hA.g.h.1
      have g5 := hA.g.q.1
      have HL7 : Hid (∀ t, t < 3 → (Instr.lookup 72 vH (.string (tx t)) true).run Yba.prog wr = .ok (.tuple #[if A.hold r t = 0 then .string { data := #[] } else .string (md (A.hold r t - 1)), .bool (decide (A.hold r t ≠ 0))]) wr) := fun t ht => by rw [← hvH]; exact hA.hp.lookV hr ht
      have HL9 : Hid (∀ wq, Grow σ W wq → ∀ m, m < 2 → (Instr.lookup 75 vQ (.string (md m)) true).run Yba.prog wq = .ok (.tuple #[qv r m, .bool (decide (A.qu r m ≠ []))]) wq) := fun wq f m hm => by rw [← hvQ]; exact (HAll.out.grow f).qp.lookV hr hm
      rw [hbH] at HsH HhH
      rw [hbQ] at HsQ HhQ
      clear hvH hbH hvQ hbQ hA hgr
      have c18 : Hid (∀ t, t < 3 → wr.cell? ⟨M, 18 + r * 3 + t, none⟩ = some (.int .i64 (A.hold r t : Int))) := fun t ht => ((HAll.out.grow HG.out).mp.mc.h r hr t ht).1
      generalize wr = w0 at *
      go_upto_region 71 with (go_at_call 12; refine (res_in r _).mono ?_; rintro e w5 ⟨rfl, h5⟩; obtain rfl := h5.symm)
      go_loopw [27, 28] (fun cv iv wq => ∃ t : Nat, t ≤ 3 ∧ iv = .int .i64 (t : Int) ∧ cv = .int .i64 (cnt t (hmap A.hold r) : Int) ∧ wq = w0) (fun _ iv _ => 3 - (intOf iv).toNat)
      case atStart => exact ⟨0, by omega, rfl, rfl, rfl⟩
      case round =>
        obtain ⟨t, ht3, rfl, rfl, rfl⟩ := hrel
        by_cases ht : t < 3
        · have t1 : (t : Int) < 3 := by omega
          have t0 : (0 : Int) ≤ (t : Int) := by omega
          have et : IntKind.i64.wrap ((t : Int) + 1) = (t : Int) + 1 := by rw [IntKind.wrap_i64]; omega
          have x1 := c18.out t ht
          obtain ⟨n, hn⟩ : ∃ n, cnt t (hmap A.hold r) = n := ⟨_, rfl⟩
          have ln : (n : Int) ≤ 3 := by have := cnt_le t (hmap A.hold r); omega
          have en : IntKind.i64.wrap ((n : Int) + 1) = (n : Int) + 1 := by rw [IntKind.wrap_i64]; omega
          have Hn : Hid (cnt (t + 1) (hmap A.hold r) = n + (if A.hold r t ≠ 0 then 1 else 0)) := Hid.mk (by rw [cnt_succ, hn]; simp only [hmap_isSome])
          rw [hn]
          clear hn
          by_cases h0 : A.hold r t = 0
          · rw [h0] at x1
            have He : Hid (cnt (t + 1) (hmap A.hold r) = n) := Hid.mk (by rw [Hn.out]; simp [h0])
            clear h0 Hn
            go_wp2
            refine ⟨⟨t + 1, by omega, by go_num, by rw [He.out], by trivial⟩, ?_⟩
            simp [intOf]
            omega
          · have h1 : ¬ (A.hold r t : Int) = 0 := by omega
            have He : Hid (cnt (t + 1) (hmap A.hold r) = n + 1) := Hid.mk (by rw [Hn.out]; simp [h0])
            clear Hn
            go_wp2
            refine ⟨⟨t + 1, by omega, by go_num, congrArg (Value.int .i64) (by rw [He.out]; omega), by trivial⟩, ?_⟩
            simp [intOf]
            omega
        · have hteq : t = 3 := by omega
          have hc3 : cnt t (hmap A.hold r) = cH := by rw [hteq]; exact HcH.out
          rw [hc3]
          have t1 : ¬ (t : Int) < 3 := by omega
          clear hteq hc3
          have hbd : decide (0 < cH) = bH := by
            cases bH with
            | false => have := HhH.out; simp at this; simp; omega
            | true => simpa using HhH.out.1 rfl
          go_upto_if 363 with fail
          go_cut [23] from 363 to 365 (fun s wx => s = .int .i64 (cnt (r + 1) fH : Int) ∧ wx = wr)
          case first =>
            cases bH with
            | false =>
              go_wp2
              go_meet
              case rel => exact ⟨congrArg (Value.int .i64) (by rw [HsH.out]; simp), rfl⟩
            | true =>
              go_wp2
              go_meet
              case rel => exact ⟨congrArg (Value.int .i64) (by rw [HsH.out]; simp), rfl⟩
          case rest =>
            rename_i hK
            obtain ⟨rfl, rfl⟩ := hcut
            refine hK _ _ (tail80 HAll HInv hr HL7 HL9 c18 lkQ lnQ g5 HhQ HsQ HcQ HG _ _ _ _ _ _ _ _ _ _ _ _ _ _ _ _ _ _ _ _ _ _ _ _ _ _ _ _ _ _ _ _ _ _ _ _ _ _ _ _ _ _ _ _ _ _ _ _ _ _ _ _ _ _ _ _ _ _ _ _ _ _ _ _ _ _ _ _ _ _ _ _ _ _ _ _ _ _ _ _ _ _ _ _ _ _ _ _ _ _ _ _ _ _ _ _ _ _ _ _ _ _ _ _ _ _ _ _ _ _ _ _ _ _ _ _ _ _ _ _ _ _ _ _ _ _ _ _ _ _ _ _ _ _ _ _ _ _ _ _ _ _ _ _ _ _ _ _ _ _ _ _ _ _ _ _ _ _ _ _ _ _ _ _ _ _ _ _ _ _ _ _ _ _ _ _ _ _ _ _ _ _ _ _ _ _ _ _ _ _ _ _ _ _ _ _ _ _ _ _ _ _ _ _ _ _ _ _ _ _ _ _ _ _ _ _ _ _ _ _ _ _ _ _ _ _ _ _ _ _ _ _ _ _ _ _ _ _ _ _ _ _ _ _ _ _ _ _ _ _ _ _ _ _ _ _ _ _ _ _ _ _ _ _ _ _ _ _ _ _ _ _ _ _ _ _ _ _ _ _ _ _ _ _ _ _ _ _ _ _ _ _ _ _ _ _ _ _ _ _ _ _ _ _ _ _ _ _ _ _ _ _ _ _ _ _ _ _ _ _ _ _ _ _ _ _ _ _ _ _ _ _ _ _ _ _ _ _ _ _ _ _ _ _ _ _ _ _ _ _ _ _ _ _ _ _ _ _ _ _ _ _ _ _ _ _ _ _ _ _ _ _ _ _ _ _ _ _ _ _ _ _ _ _ _ _ _ _ _ _ _ _ _ _ _ _ _ _ _ _ _ _ _ _ _ _ _ _ _ _ _ _ _ _ _ _ _ _ _ _ _ _ _ _ _ _ _ _ _ _ _ _ _ _ _ _ _ _ _ _ _ _ _ _ _ _ _ _ _ _ _ _ _ _ _ _ _ _ _ _ _ _ _ _ _ _ _ _ _ _ _ _ _ _ _ _ _ _ _ _ _ _ _ ?_)
            intro v2 v31 v32 v33 v34 v35 v36 v37 v38 v39 v40 v366 v367 v368 v369 v370 v371 v372 v373 v374 v375 v376 v377 v378 v379 v380 v381 v382 v383 v384 v385 v386 v387 v388 v389 v390 v391 v392 v393 v394 v395 v396 v397 v398 v399 v400 v401 v402 v403 v404 v405 v406 v407 v408 v409 v410 v411 v412 v413 v414 v415 v416 v417 v418 v419 v420 v421 v422 v423 v424 v425 v426 v427 v428 v429 v430 v431 v432 v433 v434 v435 v436 v437 v438 v439 v440 v441 v442 v443 v444 v445 v446 v447 v448 v449 v450 v451 v452 v453 v454 v455 v456 v457 v458 v459 v460 v461 v462 v463 v464 v465 v466 v467 v468 v469 v470 v471 v472 v473 v474 w' hg'
            go_wp2
            refine ⟨⟨r + 1, by omega, by go_num, rfl, rfl, hg'⟩, ?_⟩
            simp [intOf]
            omega
    · have hreq : r = 3 := by omega
      subst hreq
      have r1 : ¬ (3 : Int) < 3 := by omega
      have hlh := hA.hp.map.len resN Yba.underlying61 3
      have hlq := hA.qp.map.len resN Yba.underlying64 3
      rw [HfH.out] at hlh
      rw [HfQ.out] at hlq
      have g1 := hA.g.h.1
      have g5 := hA.g.q.1
      obtain ⟨nH, hnH⟩ : ∃ nH, cnt 3 fH = nH := ⟨_, rfl⟩
      obtain ⟨nQ, hnQ⟩ : ∃ nQ, cnt 3 fQ = nQ := ⟨_, rfl⟩
      rw [hnH] at hlh
      rw [hnQ] at hlq
      rw [hnH, hnQ]
      clear hA hgr HfH HfQ
      go_wp2
      go_ret
      exact ⟨rfl, HEnd.out _ HG.out⟩

end Go.Proofs.Ybulkatsw.Md
