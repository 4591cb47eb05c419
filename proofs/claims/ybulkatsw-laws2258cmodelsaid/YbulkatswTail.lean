import Derived.Test.YbulkatswAll
import Derived.Test.YbulkatswCode
import Derived.Deep.RegionLaw
namespace Go.Proofs.Ybulkatsw.Md
open Go Go.RowKit Mf Rw
set_option linter.unusedVariables false

set_option maxRecDepth 1000000 in
set_option maxHeartbeats 40000000 in
theorem tail80 {σ : Nat → Nat} {W wc : World} {G M Bh Be Bw Bq : Nat} {hv : Nat → Value} {has : Nat → Bool} {bh : Nat → Nat} {hasq : Nat → Bool} {bq : Nat → Nat} {qv mq : Nat → Nat → Value} {mh : Nat → Value} {A : St} {r nQ cQ s23 : Nat} {bH bQ : Bool} {vH vQ : Value} {fQ : Nat → Option Value} {Q : Exit → Act → World → Prop}
    (HAll : Hid (All σ W G M Bh Be Bw Bq hv has bh hasq bq qv mq mh A)) (HInv : Hid (Inv 1024 A)) (hr : r < 3)
    (HL7 : Hid (∀ t, t < 3 → (Instr.lookup 72 vH (.string (tx t)) true).run Yba.prog wc = .ok (.tuple #[if A.hold r t = 0 then .string { data := #[] } else .string (md (A.hold r t - 1)), .bool (decide (A.hold r t ≠ 0))]) wc))
    (HL9 : Hid (∀ wq, Grow σ W wq → ∀ m, m < 2 → (Instr.lookup 75 vQ (.string (md m)) true).run Yba.prog wq = .ok (.tuple #[qv r m, .bool (decide (A.qu r m ≠ []))]) wq))
    (c18 : Hid (∀ t, t < 3 → wc.cell? ⟨M, 18 + r * 3 + t, none⟩ = some (.int .i64 (A.hold r t : Int))))
    (lkQ : (Instr.lookup 64 (.map (some Bq)) (.string (res r)) true).run Yba.prog wc = .ok (.tuple #[vQ, .bool bQ]) wc) (lnQ : (Builtin.len_ #[75] 3 #[vQ]).run Yba.prog wc = .ok (.int .i64 (cQ : Int)) wc)
    (g5 : wc.cell? ⟨G, 5, none⟩ = some (.map (some Bq))) (HhQ : Hid (bQ = true ↔ 0 < cQ)) (HsQ : Hid (cnt (r + 1) fQ = nQ + (if bQ = true then 1 else 0))) (HcQ : Hid (cnt 2 (qmap qv A.qu r) = cQ)) (HG : Hid (Grow σ W wc))
    (u0 u1 u2 u5 u6 u7 u8 u9 u10 u11 u12 u13 u14 u15 u16 u17 u18 u19 u20 u21 u22 u27 u28 u31 u32 u33 u34 u35 u36 u37 u38 u39 u40 u41 u42 u43 u44 u45 u46 u47 u48 u49 u50 u51 u52 u53 u54 u55 u56 u57 u58 u59 u60 u61 u62 u63 u64 u65 u66 u67 u68 u69 u70 u71 u72 u73 u74 u75 u76 u77 u78 u79 u80 u81 u82 u83 u84 u85 u86 u87 u88 u89 u90 u91 u92 u93 u94 u95 u96 u97 u98 u99 u100 u101 u102 u103 u104 u105 u106 u107 u108 u109 u110 u111 u112 u113 u114 u115 u116 u117 u118 u119 u120 u121 u122 u123 u124 u125 u126 u127 u128 u129 u130 u131 u132 u133 u134 u135 u136 u137 u138 u139 u140 u141 u142 u143 u144 u145 u146 u147 u148 u149 u150 u151 u152 u153 u154 u155 u156 u157 u158 u159 u160 u161 u162 u163 u164 u165 u166 u167 u168 u169 u170 u171 u172 u173 u174 u175 u176 u177 u178 u179 u180 u181 u182 u183 u184 u185 u186 u187 u188 u189 u190 u191 u192 u193 u194 u195 u196 u197 u198 u199 u200 u201 u202 u203 u204 u205 u206 u207 u208 u209 u210 u211 u212 u213 u214 u215 u216 u217 u218 u219 u220 u221 u222 u223 u224 u225 u226 u227 u228 u229 u230 u231 u232 u233 u234 u235 u236 u237 u238 u239 u240 u241 u242 u243 u244 u245 u246 u247 u248 u249 u250 u251 u252 u253 u254 u255 u256 u257 u258 u259 u260 u261 u262 u263 u264 u265 u266 u267 u268 u269 u270 u271 u272 u273 u274 u275 u276 u277 u278 u279 u280 u281 u282 u283 u284 u285 u286 u287 u288 u289 u290 u291 u292 u293 u294 u295 u296 u297 u298 u299 u300 u301 u302 u303 u304 u305 u306 u307 u308 u309 u310 u311 u312 u313 u314 u315 u316 u317 u318 u319 u320 u321 u322 u323 u324 u325 u326 u327 u328 u329 u330 u331 u332 u333 u334 u335 u336 u337 u338 u339 u340 u341 u342 u343 u344 u345 u346 u347 u348 u349 u350 u351 u352 u353 u354 u355 u356 u357 u358 u359 u360 u361 u362 u363 u364 u365 u366 u367 u368 u369 u370 u371 u372 u373 u374 u375 u376 u377 u378 u379 u380 u381 u382 u383 u384 u385 u386 u387 u388 u389 u390 u391 u392 u393 u394 u395 u396 u397 u398 u399 u400 u401 u402 u403 u404 u405 u406 u407 u408 u409 u410 u411 u412 u413 u414 u415 u416 u417 u418 u419 u420 u421 u422 u423 u424 u425 u426 u427 u428 u429 u430 u431 u432 u433 u434 u435 u436 u437 u438 u439 u440 u441 u442 u443 u444 u445 u446 u447 u448 u449 u450 u451 u452 u453 u454 u455 u456 u457 u458 u459 u460 u461 u462 u463 u464 u465 u466 u467 u468 u469 u470 u471 u472 u473 u474 u475 u476 u477 u478 u479 u480 u481 u482 u483 u484 u485 u486 u487 u488 u489 u490 : Value) (hQ : ∀ (v2 v31 v32 v33 v34 v35 v36 v37 v38 v39 v40 v366 v367 v368 v369 v370 v371 v372 v373 v374 v375 v376 v377 v378 v379 v380 v381 v382 v383 v384 v385 v386 v387 v388 v389 v390 v391 v392 v393 v394 v395 v396 v397 v398 v399 v400 v401 v402 v403 v404 v405 v406 v407 v408 v409 v410 v411 v412 v413 v414 v415 v416 v417 v418 v419 v420 v421 v422 v423 v424 v425 v426 v427 v428 v429 v430 v431 v432 v433 v434 v435 v436 v437 v438 v439 v440 v441 v442 v443 v444 v445 v446 v447 v448 v449 v450 v451 v452 v453 v454 v455 v456 v457 v458 v459 v460 v461 v462 v463 v464 v465 v466 v467 v468 v469 v470 v471 v472 v473 v474 : Value) (w' : World), Grow σ W w' → Q .normal ⟨#[u0, u1, v2, .pointer (some ⟨G, 0, none⟩), .pointer (some ⟨M, 0, none⟩), u5, u6, u7, u8, u9, u10, u11, u12, u13, u14, u15, u16, u17, u18, u19, u20, u21, u22, .int .i64 (s23 : Int), .int .i64 (cnt (r + 1) fQ : Int), .int .i64 (r : Int), .string (res r), u27, u28, vH, .bool bH, v31, v32, v33, v34, v35, v36, v37, v38, v39, v40, u41, u42, u43, u44, u45, u46, u47, u48, u49, u50, u51, u52, u53, u54, u55, u56, u57, u58, u59, u60, u61, u62, u63, u64, u65, u66, u67, u68, u69, u70, u71, u72, u73, u74, u75, u76, u77, u78, u79, u80, u81, u82, u83, u84, u85, u86, u87, u88, u89, u90, u91, u92, u93, u94, u95, u96, u97, u98, u99, u100, u101, u102, u103, u104, u105, u106, u107, u108, u109, u110, u111, u112, u113, u114, u115, u116, u117, u118, u119, u120, u121, u122, u123, u124, u125, u126, u127, u128, u129, u130, u131, u132, u133, u134, u135, u136, u137, u138, u139, u140, u141, u142, u143, u144, u145, u146, u147, u148, u149, u150, u151, u152, u153, u154, u155, u156, u157, u158, u159, u160, u161, u162, u163, u164, u165, u166, u167, u168, u169, u170, u171, u172, u173, u174, u175, u176, u177, u178, u179, u180, u181, u182, u183, u184, u185, u186, u187, u188, u189, u190, u191, u192, u193, u194, u195, u196, u197, u198, u199, u200, u201, u202, u203, u204, u205, u206, u207, u208, u209, u210, u211, u212, u213, u214, u215, u216, u217, u218, u219, u220, u221, u222, u223, u224, u225, u226, u227, u228, u229, u230, u231, u232, u233, u234, u235, u236, u237, u238, u239, u240, u241, u242, u243, u244, u245, u246, u247, u248, u249, u250, u251, u252, u253, u254, u255, u256, u257, u258, u259, u260, u261, u262, u263, u264, u265, u266, u267, u268, u269, u270, u271, u272, u273, u274, u275, u276, u277, u278, u279, u280, u281, u282, u283, u284, u285, u286, u287, u288, u289, u290, u291, u292, u293, u294, u295, u296, u297, u298, u299, u300, u301, u302, u303, u304, u305, u306, u307, u308, u309, u310, u311, u312, u313, u314, u315, u316, u317, u318, u319, u320, u321, u322, u323, u324, u325, u326, u327, u328, u329, u330, u331, u332, u333, u334, u335, u336, u337, u338, u339, u340, u341, u342, u343, u344, u345, u346, u347, u348, u349, u350, u351, u352, u353, u354, u355, u356, u357, u358, u359, u360, u361, u362, u363, u364, u365, v366, v367, v368, v369, v370, v371, v372, v373, v374, v375, v376, v377, v378, v379, v380, v381, v382, v383, v384, v385, v386, v387, v388, v389, v390, v391, v392, v393, v394, v395, v396, v397, v398, v399, v400, v401, v402, v403, v404, v405, v406, v407, v408, v409, v410, v411, v412, v413, v414, v415, v416, v417, v418, v419, v420, v421, v422, v423, v424, v425, v426, v427, v428, v429, v430, v431, v432, v433, v434, v435, v436, v437, v438, v439, v440, v441, v442, v443, v444, v445, v446, v447, v448, v449, v450, v451, v452, v453, v454, v455, v456, v457, v458, v459, v460, v461, v462, v463, v464, v465, v466, v467, v468, v469, v470, v471, v472, v473, v474, u475, u476, u477, u478, u479, u480, u481, u482, u483, u484, u485, u486, u487, u488, u489, u490], []⟩ w') :
    Code.wp Yba.prog rest80 Q ⟨#[u0, u1, u2, .pointer (some ⟨G, 0, none⟩), .pointer (some ⟨M, 0, none⟩), u5, u6, u7, u8, u9, u10, u11, u12, u13, u14, u15, u16, u17, u18, u19, u20, u21, u22, .int .i64 (s23 : Int), .int .i64 (nQ : Int), .int .i64 (r : Int), .string (res r), u27, u28, vH, .bool bH, u31, u32, u33, u34, u35, u36, u37, u38, u39, u40, u41, u42, u43, u44, u45, u46, u47, u48, u49, u50, u51, u52, u53, u54, u55, u56, u57, u58, u59, u60, u61, u62, u63, u64, u65, u66, u67, u68, u69, u70, u71, u72, u73, u74, u75, u76, u77, u78, u79, u80, u81, u82, u83, u84, u85, u86, u87, u88, u89, u90, u91, u92, u93, u94, u95, u96, u97, u98, u99, u100, u101, u102, u103, u104, u105, u106, u107, u108, u109, u110, u111, u112, u113, u114, u115, u116, u117, u118, u119, u120, u121, u122, u123, u124, u125, u126, u127, u128, u129, u130, u131, u132, u133, u134, u135, u136, u137, u138, u139, u140, u141, u142, u143, u144, u145, u146, u147, u148, u149, u150, u151, u152, u153, u154, u155, u156, u157, u158, u159, u160, u161, u162, u163, u164, u165, u166, u167, u168, u169, u170, u171, u172, u173, u174, u175, u176, u177, u178, u179, u180, u181, u182, u183, u184, u185, u186, u187, u188, u189, u190, u191, u192, u193, u194, u195, u196, u197, u198, u199, u200, u201, u202, u203, u204, u205, u206, u207, u208, u209, u210, u211, u212, u213, u214, u215, u216, u217, u218, u219, u220, u221, u222, u223, u224, u225, u226, u227, u228, u229, u230, u231, u232, u233, u234, u235, u236, u237, u238, u239, u240, u241, u242, u243, u244, u245, u246, u247, u248, u249, u250, u251, u252, u253, u254, u255, u256, u257, u258, u259, u260, u261, u262, u263, u264, u265, u266, u267, u268, u269, u270, u271, u272, u273, u274, u275, u276, u277, u278, u279, u280, u281, u282, u283, u284, u285, u286, u287, u288, u289, u290, u291, u292, u293, u294, u295, u296, u297, u298, u299, u300, u301, u302, u303, u304, u305, u306, u307, u308, u309, u310, u311, u312, u313, u314, u315, u316, u317, u318, u319, u320, u321, u322, u323, u324, u325, u326, u327, u328, u329, u330, u331, u332, u333, u334, u335, u336, u337, u338, u339, u340, u341, u342, u343, u344, u345, u346, u347, u348, u349, u350, u351, u352, u353, u354, u355, u356, u357, u358, u359, u360, u361, u362, u363, u364, u365, u366, u367, u368, u369, u370, u371, u372, u373, u374, u375, u376, u377, u378, u379, u380, u381, u382, u383, u384, u385, u386, u387, u388, u389, u390, u391, u392, u393, u394, u395, u396, u397, u398, u399, u400, u401, u402, u403, u404, u405, u406, u407, u408, u409, u410, u411, u412, u413, u414, u415, u416, u417, u418, u419, u420, u421, u422, u423, u424, u425, u426, u427, u428, u429, u430, u431, u432, u433, u434, u435, u436, u437, u438, u439, u440, u441, u442, u443, u444, u445, u446, u447, u448, u449, u450, u451, u452, u453, u454, u455, u456, u457, u458, u459, u460, u461, u462, u463, u464, u465, u466, u467, u468, u469, u470, u471, u472, u473, u474, u475, u476, u477, u478, u479, u480, u481, u482, u483, u484, u485, u486, u487, u488, u489, u490], []⟩ wc := by
  conv => arg 2; whnf
  have r1 : (r : Int) < 3 := by omega
  have r0 : (0 : Int) ≤ (r : Int) := by omega
  have lQ : (nQ : Int) ≤ 3 := by have := cnt_le (r + 1) fQ; have := HsQ.out; split at this <;> omega
  have eQ : IntKind.i64.wrap ((nQ : Int) + 1) = (nQ : Int) + 1 := by rw [IntKind.wrap_i64]; omega
  have lcQ : (cQ : Int) ≤ 2 := by have := cnt_le 2 (qmap qv A.qu r); have := HcQ.out; omega
  go_upto_region 81 with fail
  go_loopw [31] (fun iv wq => ∃ t : Nat, t ≤ 3 ∧ iv = .int .i64 (t : Int) ∧ wq = wc) (fun iv _ => 3 - (intOf iv).toNat)
  case atStart => exact ⟨0, by omega, rfl, rfl⟩
  case round =>
    obtain ⟨t, ht3, rfl, rfl⟩ := hrel
    by_cases ht : t < 3
    · have t1 : (t : Int) < 3 := by omega
      have t0 : (0 : Int) ≤ (t : Int) := by omega
      have et : IntKind.i64.wrap ((t : Int) + 1) = (t : Int) + 1 := by rw [IntKind.wrap_i64]; omega
      have x1 := c18.out t ht
      have l1 := HL7.out t ht
      by_cases h0 : A.hold r t = 0
      · rw [h0] at x1 l1
        have l2 : (Instr.lookup 72 vH (.string (tx t)) true).run Yba.prog wr = .ok (.tuple #[.string { data := #[] }, .bool false]) wr := by simpa using l1
        clear l1 h0
        go_wp2_with (go_at_call 11; refine (tx_in t _).mono ?_; rintro e w5 ⟨rfl, rfl⟩)
        refine ⟨⟨t + 1, by omega, by go_num, by trivial⟩, ?_⟩
        simp [intOf]
        omega
      · obtain ⟨h, hh⟩ : ∃ h, A.hold r t = h + 1 := ⟨A.hold r t - 1, by omega⟩
        have h2 := HInv.out.hold r t
        rw [hh] at x1 l1
        have x2 : wr.cell? ⟨M, 18 + r * 3 + t, none⟩ = some (.int .i64 ((h : Int) + 1)) := x1
        have l2 : (Instr.lookup 72 vH (.string (tx t)) true).run Yba.prog wr = .ok (.tuple #[.string (md h), .bool true]) wr := by simpa using l1
        have e1 : ¬ (h : Int) + 1 = 0 := by omega
        have e2 : IntKind.i64.wrap ((h : Int) + 1 - 1) = (h : Int) := by rw [IntKind.wrap_i64]; omega
        have e3 : IntKind.i64.wrap (h : Int) = (h : Int) := by rw [IntKind.wrap_i64]; omega
        have e4 : (h : Int) ≤ 1 := by omega
        clear l1 h0 x1 h2 hh
        go_wp2_with (first | (go_at_call 11; refine (tx_in t _).mono ?_; rintro e w5 ⟨rfl, rfl⟩) | (go_at_call 13; refine (md_in h _).mono ?_; rintro e w5 ⟨rfl, rfl⟩))
        refine ⟨⟨t + 1, by omega, by go_num, by trivial⟩, ?_⟩
        simp [intOf]
        omega
    · have t1 : ¬ (t : Int) < 3 := by omega
      go_upto_region 90 with fail
      generalize wr = w0 at *
      go_loopw [34, 35] (fun cv iv wq => ∃ m : Nat, m ≤ 2 ∧ iv = .int .i64 (m : Int) ∧ cv = .int .i64 (cnt m (qmap qv A.qu r) : Int) ∧ wq = w0) (fun _ iv _ => 2 - (intOf iv).toNat)
      case atStart => exact ⟨0, by omega, rfl, rfl, rfl⟩
      case round =>
        obtain ⟨m, hm2, rfl, rfl, rfl⟩ := hrel
        by_cases hm : m < 2
        · have m1 : (m : Int) < 2 := by omega
          have m0 : (0 : Int) ≤ (m : Int) := by omega
          have em : IntKind.i64.wrap ((m : Int) + 1) = (m : Int) + 1 := by rw [IntKind.wrap_i64]; omega
          obtain ⟨n, hn⟩ : ∃ n, cnt m (qmap qv A.qu r) = n := ⟨_, rfl⟩
          have ln : (n : Int) ≤ 2 := by have := cnt_le m (qmap qv A.qu r); omega
          have en : IntKind.i64.wrap ((n : Int) + 1) = (n : Int) + 1 := by rw [IntKind.wrap_i64]; omega
          have Hn : Hid (cnt (m + 1) (qmap qv A.qu r) = n + (if A.qu r m ≠ [] then 1 else 0)) := Hid.mk (by rw [cnt_succ, hn]; simp only [qmap_isSome])
          rw [hn]
          have hA := HAll.out.grow HG.out
          have x1 := (hA.mp.mc.q r hr m hm).1
          obtain ⟨a2, c2, hv2, _, _⟩ := (hA.mp.qs r hr m hm).shape
          rw [ints_length] at hv2
          obtain ⟨kk, hkk⟩ : ∃ kk, (A.qu r m).length = kk := ⟨_, rfl⟩
          rw [hkk] at hv2
          rw [hv2] at x1
          have hk1 : (kk : Int) ≤ 1024 := by have := HInv.out.quLen r m; omega
          clear hn hA hv2
          by_cases h0 : A.qu r m = []
          · have k0 : kk = 0 := by rw [← hkk, h0]; rfl
            subst k0
            have He : Hid (cnt (m + 1) (qmap qv A.qu r) = n) := Hid.mk (by rw [Hn.out]; simp [h0])
            clear h0 Hn hkk
            go_wp2
            refine ⟨⟨m + 1, by omega, by go_num, by rw [He.out], by trivial⟩, ?_⟩
            simp [intOf]
            omega
          · have k0 : (0 : Int) < (kk : Int) := by
              have := List.length_pos_iff.2 h0
              omega
            have He : Hid (cnt (m + 1) (qmap qv A.qu r) = n + 1) := Hid.mk (by rw [Hn.out]; simp [h0])
            clear h0 Hn hkk
            go_wp2
            refine ⟨⟨m + 1, by omega, by go_num, congrArg (Value.int .i64) (by rw [He.out]; omega), by trivial⟩, ?_⟩
            simp [intOf]
            omega
        · have hmeq : m = 2 := by omega
          have hc2 : cnt m (qmap qv A.qu r) = cQ := by rw [hmeq]; exact HcQ.out
          rw [hc2]
          have m1 : ¬ (m : Int) < 2 := by omega
          clear hmeq hc2
          have hbd2 : decide (0 < cQ) = bQ := by
            cases bQ with
            | false => have := HhQ.out; simp at this; simp; omega
            | true => simpa using HhQ.out.1 rfl
          go_upto_if 438 with fail
          go_cut [24] from 438 to 440 (fun s wx => s = .int .i64 (cnt (r + 1) fQ : Int) ∧ wx = wr)
          case first =>
            cases bQ with
            | false =>
              go_wp2
              go_meet
              case rel => exact ⟨congrArg (Value.int .i64) (by rw [HsQ.out]; simp), rfl⟩
            | true =>
              go_wp2
              go_meet
              case rel => exact ⟨congrArg (Value.int .i64) (by rw [HsQ.out]; simp), rfl⟩
          case rest =>
            obtain ⟨rfl, rfl⟩ := hcut
            go_upto_region 100 with fail
            clear lkQ lnQ HhQ HsQ g5 c18 HL7
            go_loopw [38] (fun iv wq => ∃ m : Nat, m ≤ 2 ∧ iv = .int .i64 (m : Int) ∧ Grow σ W wq) (fun iv _ => 2 - (intOf iv).toNat)
            case atStart => exact ⟨0, by omega, rfl, HG.out⟩
            case round =>
              obtain ⟨m, hm2, rfl, hgm⟩ := hrel
              have HGm := Hid.mk hgm
              by_cases hm : m < 2
              · have m1 : (m : Int) < 2 := by omega
                have m0 : (0 : Int) ≤ (m : Int) := by omega
                have em : IntKind.i64.wrap ((m : Int) + 1) = (m : Int) + 1 := by rw [IntKind.wrap_i64]; omega
                have hA := HAll.out.grow hgm
                have l1 := HL9.out wr hgm m hm
                have x1 := (hA.mp.mc.q r hr m hm).1
                have HEq := Hid.mk (equal_grow (hA.qp.vals r hr m hm) (hA.mp.qs r hr m hm) (HInv.out.quLen r m) σ)
                obtain ⟨a1, c1, hv1, _, _⟩ := (hA.qp.vals r hr m hm).shape
                obtain ⟨a2, c2, hv2, _, _⟩ := (hA.mp.qs r hr m hm).shape
                rw [ints_length] at hv1 hv2
                obtain ⟨kk, hkk⟩ : ∃ kk, (A.qu r m).length = kk := ⟨_, rfl⟩
                rw [hkk] at hv1 hv2
                rw [hv1] at l1 HEq
                rw [hv2] at x1 HEq
                clear hA hv1 hv2 hgm
                by_cases h0 : A.qu r m = []
                · have k0 : kk = 0 := by rw [← hkk, h0]; rfl
                  subst k0
                  have l2 : (Instr.lookup 75 vQ (.string (md m)) true).run Yba.prog wr = .ok (.tuple #[.slice a1 0 c1, .bool false]) wr := by simpa [h0] using l1
                  clear l1 h0 hkk
                  go_wp2_with (first | (go_at_call 13; refine (md_in m _).mono ?_; rintro e w5 ⟨rfl, rfl⟩) | (go_at_call 16; refine HEq.out.mono ?_; rintro e w5 ⟨rfl, hg5⟩))
                  refine ⟨⟨m + 1, by omega, by go_num, HGm.out.trans hg5⟩, ?_⟩
                  simp [intOf]
                  omega
                · have k0 : (0 : Int) < (kk : Int) := by
                    have := List.length_pos_iff.2 h0
                    omega
                  have k1 : 0 < kk := by omega
                  have k2 : decide (0 < kk) = true := by simp; omega
                  have l2 : (Instr.lookup 75 vQ (.string (md m)) true).run Yba.prog wr = .ok (.tuple #[.slice a1 kk c1, .bool true]) wr := by simpa [h0] using l1
                  clear l1 h0 hkk
                  go_wp2_with (first | (go_at_call 13; refine (md_in m _).mono ?_; rintro e w5 ⟨rfl, rfl⟩) | (go_at_call 16; refine HEq.out.mono ?_; rintro e w5 ⟨rfl, hg5⟩))
                  refine ⟨⟨m + 1, by omega, by go_num, HGm.out.trans hg5⟩, ?_⟩
                  simp [intOf]
                  omega
              · have m1 : ¬ (m : Int) < 2 := by omega
                clear hgm
                go_wp2
                exact HGm.out

end Go.Proofs.Ybulkatsw.Md
