import Derived.Test.Qxb6614395aFmtQ5
import Derived.Test.Qxb6614395aFmtR69
set_option linter.unusedSimpArgs false
set_option linter.unusedVariables false
namespace Go.Proofs.Qxb6614395aFmt
open Go Go.RowKit Go.Deep Go.Extern.Stop Go.Stop Go.Extern
attribute [local go_sem] str_size str_get str_extract str_toList str_append
set_option maxHeartbeats 6400000 in
set_option maxRecDepth 1000000 in
theorem qB2 {k1 k2 k3 k4 k5 k20 k21 k22 k23 k24 k25 k26 k27 k28 k29 k30 k31 k32 k33 k34 k35 k36 k37 k38 k39 k40 k41 k42 k43 k44 k45 k46 k47 k48 k49 k50 k51 k52 k53 k54 k55 k56 k57 k58 k59 k60 k61 k62 k63 k64 k65 k66 k67 k68 k69 k70 k71 k72 k73 k74 k75 k76 k77 k78 k79 k80 k81 k82 k83 k84 k85 k86 k87 k88 k89 k90 k91 k92 k93 k94 k95 k96 k97 k98 k99 k100 k101 k102 k103 k104 k105 k106 k107 k108 k109 k110 k111 k112 k113 k114 k115 k116 k117 k118 k119 k120 k121 k122 k123 k124 k125 k126 k127 k128 k476 k477 k478 k479 k480 k481 k482 k483 k484 k485 k486 k487 k488 k489 k490 k491 k492 k493 k494 k495 k496 k497 k498 k499 k500 k501 k502 k503 k504 k505 k506 k507 k508 k509 k510 k511 k512 k513 k514 k515 k516 k517 k518 k519 k520 k521 k522 k523 k524 k525 k526 k527 k528 k529 k530 k531 k532 k533 k534 k535 k536 k537 k538 k539 k540 k541 k542 k543 k544 k545 k546 k547 k548 k549 k550 k551 k552 k553 k554 k555 k556 k557 k558 k559 u12 u13 u14 u15 u16 u18 u19 u129 u130 u131 u132 u133 u134 u135 u136 u137 u138 u139 u140 u141 u142 u143 u144 u145 u146 u147 u148 u149 u150 u151 u152 u153 u154 u155 u156 u157 u158 u159 u160 u161 u162 u163 u164 u165 u166 u167 u168 u169 u170 u171 u172 u173 u174 u175 u176 u177 u178 u179 u180 u181 u182 u183 u184 u185 u186 u187 u188 u189 u190 u191 u192 u193 u194 u195 u196 u197 u198 u199 u200 u201 u202 u203 u204 u205 u206 u207 u208 u209 u210 u211 u212 u213 u214 u215 u216 u217 u218 u219 u220 u221 u222 u223 u224 u225 u226 u227 u228 u229 u230 u231 u232 u233 u234 u235 u236 u237 u238 u239 u240 u241 u242 u243 u244 u245 u246 u247 u248 u249 u250 u251 u252 u253 u254 u255 u256 u257 u258 u259 u260 u261 u262 u263 u264 u265 u266 u267 u268 u269 u270 u271 u272 u273 u274 u275 u276 u277 u278 u279 u280 u281 u282 u283 u284 u285 u286 u287 u288 u289 u290 u291 u292 u293 u294 u295 u296 u297 u298 u299 u300 u301 u302 u303 u304 u305 u306 u307 u308 u309 u310 u311 u312 u313 u314 u315 u316 u317 u318 u319 u320 u321 u322 u323 u324 u325 u326 u327 u328 u329 u330 u331 u332 u333 u334 u335 u336 u337 u338 u339 u340 u341 u342 u343 u344 u345 u346 u347 u348 u349 u350 u351 u352 u353 u354 u355 u356 u357 u358 u359 u360 u361 u362 u363 u364 u365 u366 u367 u368 u369 u370 u371 u372 u373 u374 u375 u376 u377 u378 u379 u380 u381 u382 u383 u384 u385 u386 u387 u388 u389 u390 u391 u392 u393 u394 u395 u396 u397 u398 u399 u400 u401 u402 u403 u404 u405 u406 u407 u408 u409 u410 u411 u412 u413 u414 u415 u416 u417 u418 u419 u420 u421 u422 u423 u424 u425 u426 u427 u428 u429 u430 u431 u432 u433 u434 u435 u436 u437 u438 u439 u440 u441 u442 u443 u444 u445 u446 u447 u448 u449 u450 u451 u452 u453 u454 u455 u456 u457 u458 u459 u460 u461 u462 u463 u464 u465 u466 u467 u468 u469 u470 u471 u472 u473 u474 u475 : Value} {F : Interp} {g : Nat} {bE bF : Addr} {R : QRes} {nl0 a : Nat} {c0 : CV} {w0 : World} {P : Nat} {r10 : Int} {FB f lb lo n cap : Nat} {acc : List (List UInt8)} {cur ln : List UInt8} {c : CV} {ps : List Value} {pl fl : Int} {v7 : Value} {w : World} {K : Act → World → Prop} {Q' : Exit → Act → World → Prop}
    (E : Env F g bE bF c0 w0) (hnc : n ≤ cap) (hln : ln.length = n) (hseg : Seg w lb lo ln) (hFX : FX g c0 w0 lb P pl c (acc.flatten ++ cur) (ixsOf acc) ps w) (hPB : PB g c w0 FB fl w) (hne : FB ≠ P)
    (hRQ : RQ g bE R nl0 a acc (some cur) ln c.nl (acc.flatten.length + cur.length + acc.length) (f + 1) (.nilIface) w) (hfst : Fst nl0 a acc ps fl)
    (hi : Lib.indexByte ln 34 = -1) (hpos : 0 < n)
    (hK : ∀ (u12 u13 u14 u15 u16 u18 u19 u129 u130 u131 u132 u133 u134 u135 u136 u137 u138 u139 u140 u141 u142 u143 u144 u145 u146 u147 u148 u149 u150 u151 u152 u153 u154 u155 u156 u157 u158 u159 u160 u161 u162 u163 u164 u165 u166 u167 u168 u169 u170 u171 u172 u173 u174 u175 u176 u177 u178 u179 u180 u181 u182 u183 u184 u185 u186 u187 u188 u189 u190 u191 u192 u193 u194 u195 u196 u197 u198 u199 u200 u201 u202 u203 u204 u205 u206 u207 u208 u209 u210 u211 u212 u213 u214 u215 u216 u217 u218 u219 u220 u221 u222 u223 u224 u225 u226 u227 u228 u229 u230 u231 u232 u233 u234 u235 u236 u237 u238 u239 u240 u241 u242 u243 u244 u245 u246 u247 u248 u249 u250 u251 u252 u253 u254 u255 u256 u257 u258 u259 u260 u261 u262 u263 u264 u265 u266 u267 u268 u269 u270 u271 u272 u273 u274 u275 u276 u277 u278 u279 u280 u281 u282 u283 u284 u285 u286 u287 u288 u289 u290 u291 u292 u293 u294 u295 u296 u297 u298 u299 u300 u301 u302 u303 u304 u305 u306 u307 u308 u309 u310 u311 u312 u313 u314 u315 u316 u317 u318 u319 u320 u321 u322 u323 u324 u325 u326 u327 u328 u329 u330 u331 u332 u333 u334 u335 u336 u337 u338 u339 u340 u341 u342 u343 u344 u345 u346 u347 u348 u349 u350 u351 u352 u353 u354 u355 u356 u357 u358 u359 u360 u361 u362 u363 u364 u365 u366 u367 u368 u369 u370 u371 u372 u373 u374 u375 u376 u377 u378 u379 u380 u381 u382 u383 u384 u385 u386 u387 u388 u389 u390 u391 u392 u393 u394 u395 u396 u397 u398 u399 u400 u401 u402 u403 u404 u405 u406 u407 u408 u409 u410 u411 u412 u413 u414 u415 u416 u417 u418 u419 u420 u421 u422 u423 u424 u425 u426 u427 u428 u429 u430 u431 u432 u433 u434 u435 u436 u437 u438 u439 u440 u441 u442 u443 u444 u445 u446 u447 u448 u449 u450 u451 u452 u453 u454 u455 u456 u457 u458 u459 u460 u461 u462 u463 u464 u465 u466 u467 u468 u469 u470 u471 u472 u473 u474 u475 v6 v7 : Value) (w' : World), StQ g bE R nl0 a c0 w0 P FB f v6 v7 w' → K ⟨#[.pointer (some ⟨g + 4, 0, none⟩), k1, k2, k3, k4, k5, v6, v7, .nilIface, .int .i64 1, .int .i64 r10, .pointer (some ⟨P, 0, none⟩), u12, u13, u14, u15, u16, .pointer (some ⟨FB, 0, none⟩), u18, u19, k20, k21, k22, k23, k24, k25, k26, k27, k28, k29, k30, k31, k32, k33, k34, k35, k36, k37, k38, k39, k40, k41, k42, k43, k44, k45, k46, k47, k48, k49, k50, k51, k52, k53, k54, k55, k56, k57, k58, k59, k60, k61, k62, k63, k64, k65, k66, k67, k68, k69, k70, k71, k72, k73, k74, k75, k76, k77, k78, k79, k80, k81, k82, k83, k84, k85, k86, k87, k88, k89, k90, k91, k92, k93, k94, k95, k96, k97, k98, k99, k100, k101, k102, k103, k104, k105, k106, k107, k108, k109, k110, k111, k112, k113, k114, k115, k116, k117, k118, k119, k120, k121, k122, k123, k124, k125, k126, k127, k128, u129, u130, u131, u132, u133, u134, u135, u136, u137, u138, u139, u140, u141, u142, u143, u144, u145, u146, u147, u148, u149, u150, u151, u152, u153, u154, u155, u156, u157, u158, u159, u160, u161, u162, u163, u164, u165, u166, u167, u168, u169, u170, u171, u172, u173, u174, u175, u176, u177, u178, u179, u180, u181, u182, u183, u184, u185, u186, u187, u188, u189, u190, u191, u192, u193, u194, u195, u196, u197, u198, u199, u200, u201, u202, u203, u204, u205, u206, u207, u208, u209, u210, u211, u212, u213, u214, u215, u216, u217, u218, u219, u220, u221, u222, u223, u224, u225, u226, u227, u228, u229, u230, u231, u232, u233, u234, u235, u236, u237, u238, u239, u240, u241, u242, u243, u244, u245, u246, u247, u248, u249, u250, u251, u252, u253, u254, u255, u256, u257, u258, u259, u260, u261, u262, u263, u264, u265, u266, u267, u268, u269, u270, u271, u272, u273, u274, u275, u276, u277, u278, u279, u280, u281, u282, u283, u284, u285, u286, u287, u288, u289, u290, u291, u292, u293, u294, u295, u296, u297, u298, u299, u300, u301, u302, u303, u304, u305, u306, u307, u308, u309, u310, u311, u312, u313, u314, u315, u316, u317, u318, u319, u320, u321, u322, u323, u324, u325, u326, u327, u328, u329, u330, u331, u332, u333, u334, u335, u336, u337, u338, u339, u340, u341, u342, u343, u344, u345, u346, u347, u348, u349, u350, u351, u352, u353, u354, u355, u356, u357, u358, u359, u360, u361, u362, u363, u364, u365, u366, u367, u368, u369, u370, u371, u372, u373, u374, u375, u376, u377, u378, u379, u380, u381, u382, u383, u384, u385, u386, u387, u388, u389, u390, u391, u392, u393, u394, u395, u396, u397, u398, u399, u400, u401, u402, u403, u404, u405, u406, u407, u408, u409, u410, u411, u412, u413, u414, u415, u416, u417, u418, u419, u420, u421, u422, u423, u424, u425, u426, u427, u428, u429, u430, u431, u432, u433, u434, u435, u436, u437, u438, u439, u440, u441, u442, u443, u444, u445, u446, u447, u448, u449, u450, u451, u452, u453, u454, u455, u456, u457, u458, u459, u460, u461, u462, u463, u464, u465, u466, u467, u468, u469, u470, u471, u472, u473, u474, u475, k476, k477, k478, k479, k480, k481, k482, k483, k484, k485, k486, k487, k488, k489, k490, k491, k492, k493, k494, k495, k496, k497, k498, k499, k500, k501, k502, k503, k504, k505, k506, k507, k508, k509, k510, k511, k512, k513, k514, k515, k516, k517, k518, k519, k520, k521, k522, k523, k524, k525, k526, k527, k528, k529, k530, k531, k532, k533, k534, k535, k536, k537, k538, k539, k540, k541, k542, k543, k544, k545, k546, k547, k548, k549, k550, k551, k552, k553, k554, k555, k556, k557, k558, k559], []⟩ w') :
    Code.wp Tryf.prog qBody (Exit.then K Q') ⟨#[.pointer (some ⟨g + 4, 0, none⟩), k1, k2, k3, k4, k5, .slice (some ⟨lb, lo, none⟩) n cap, .nilIface, .nilIface, .int .i64 1, .int .i64 r10, .pointer (some ⟨P, 0, none⟩), u12, u13, u14, u15, u16, .pointer (some ⟨FB, 0, none⟩), u18, u19, k20, k21, k22, k23, k24, k25, k26, k27, k28, k29, k30, k31, k32, k33, k34, k35, k36, k37, k38, k39, k40, k41, k42, k43, k44, k45, k46, k47, k48, k49, k50, k51, k52, k53, k54, k55, k56, k57, k58, k59, k60, k61, k62, k63, k64, k65, k66, k67, k68, k69, k70, k71, k72, k73, k74, k75, k76, k77, k78, k79, k80, k81, k82, k83, k84, k85, k86, k87, k88, k89, k90, k91, k92, k93, k94, k95, k96, k97, k98, k99, k100, k101, k102, k103, k104, k105, k106, k107, k108, k109, k110, k111, k112, k113, k114, k115, k116, k117, k118, k119, k120, k121, k122, k123, k124, k125, k126, k127, k128, u129, u130, u131, u132, u133, u134, u135, u136, u137, u138, u139, u140, u141, u142, u143, u144, u145, u146, u147, u148, u149, u150, u151, u152, u153, u154, u155, u156, u157, u158, u159, u160, u161, u162, u163, u164, u165, u166, u167, u168, u169, u170, u171, u172, u173, u174, u175, u176, u177, u178, u179, u180, u181, u182, u183, u184, u185, u186, u187, u188, u189, u190, u191, u192, u193, u194, u195, u196, u197, u198, u199, u200, u201, u202, u203, u204, u205, u206, u207, u208, u209, u210, u211, u212, u213, u214, u215, u216, u217, u218, u219, u220, u221, u222, u223, u224, u225, u226, u227, u228, u229, u230, u231, u232, u233, u234, u235, u236, u237, u238, u239, u240, u241, u242, u243, u244, u245, u246, u247, u248, u249, u250, u251, u252, u253, u254, u255, u256, u257, u258, u259, u260, u261, u262, u263, u264, u265, u266, u267, u268, u269, u270, u271, u272, u273, u274, u275, u276, u277, u278, u279, u280, u281, u282, u283, u284, u285, u286, u287, u288, u289, u290, u291, u292, u293, u294, u295, u296, u297, u298, u299, u300, u301, u302, u303, u304, u305, u306, u307, u308, u309, u310, u311, u312, u313, u314, u315, u316, u317, u318, u319, u320, u321, u322, u323, u324, u325, u326, u327, u328, u329, u330, u331, u332, u333, u334, u335, u336, u337, u338, u339, u340, u341, u342, u343, u344, u345, u346, u347, u348, u349, u350, u351, u352, u353, u354, u355, u356, u357, u358, u359, u360, u361, u362, u363, u364, u365, u366, u367, u368, u369, u370, u371, u372, u373, u374, u375, u376, u377, u378, u379, u380, u381, u382, u383, u384, u385, u386, u387, u388, u389, u390, u391, u392, u393, u394, u395, u396, u397, u398, u399, u400, u401, u402, u403, u404, u405, u406, u407, u408, u409, u410, u411, u412, u413, u414, u415, u416, u417, u418, u419, u420, u421, u422, u423, u424, u425, u426, u427, u428, u429, u430, u431, u432, u433, u434, u435, u436, u437, u438, u439, u440, u441, u442, u443, u444, u445, u446, u447, u448, u449, u450, u451, u452, u453, u454, u455, u456, u457, u458, u459, u460, u461, u462, u463, u464, u465, u466, u467, u468, u469, u470, u471, u472, u473, u474, u475, k476, k477, k478, k479, k480, k481, k482, k483, k484, k485, k486, k487, k488, k489, k490, k491, k492, k493, k494, k495, k496, k497, k498, k499, k500, k501, k502, k503, k504, k505, k506, k507, k508, k509, k510, k511, k512, k513, k514, k515, k516, k517, k518, k519, k520, k521, k522, k523, k524, k525, k526, k527, k528, k529, k530, k531, k532, k533, k534, k535, k536, k537, k538, k539, k540, k541, k542, k543, k544, k545, k546, k547, k548, k549, k550, k551, k552, k553, k554, k555, k556, k557, k558, k559], []⟩ w := by
  have HE := hid_of E
  have HLN := hid_of hln
  have HSEG := hid_of hseg
  have HFX := hid_of hFX
  have HPB := hid_of hPB
  have HRQ := hid_of hRQ
  have HFST := hid_of hfst
  have HK := hid_of hK
  have hbd := hRQ.bound
  rw [hln] at hbd
  have cQ := index_calls w lb lo n cap ln hln hseg 34
  rw [show ((34 : Int).toNat).toUInt8 = 34 by rfl, hi] at cQ
  have HNO := hid_of (indexByte_none hi)
  have hn0 : (0 : Int) < (n : Int) := by omega
  have hlne : ln ≠ [] := by rintro rfl; simp at hln; omega
  rcases hRQ with ⟨-, s, rest, r, b, hsrc, hpar, hcnl, hb1, hb2, hb3⟩ | ⟨N, h, -⟩
  · have hb1' : nl0 + b + rest.length ≤ 1000000 := hb1.resolve_right (fun h => hlne h.1)
    have HSRC := hid_of hsrc
    have HPAR := hid_of hpar
    have HCNL := hid_of hcnl
    have HB := hid_of (And.intro hb1' (And.intro hb2 hb3))
    have HLNE := hid_of hlne
    clear E hln hseg hFX hPB hfst hK hi hlne hsrc hpar hcnl hb1 hb1' hb2 hb3 HRQ
    conv => arg 2; whnf
    go_upto_region 69 with (go_at_call 30; go_fit cQ; rintro e wd ⟨rfl, rfl⟩; dsimp only)
    refine rbuf69 (l := ln) HFX.out HLN.out HSEG.out (by rw [List.length_append]; omega) ?_
    intro y401 y402 y403 y404 y405 y406 y407 y408 y409 v5 w5 hF5 hO5
    have hPB5 := HPB.out.appRbuf HFX.out.rows hO5 v5
    have hsrc5 := HSRC.out.only hO5 HFX.out.awayRbuf
    obtain ⟨col5, hP5⟩ := hF5.p.p
    have p1 := hP5.cell (i := 1) rfl
    have g1 := hP5.frozen 1
    have hcol := hF5.setCol (wrap64 (col5 + (n : Int)))
    have hsrc6 := hsrc5.only hcol.2 hF5.awayP
    have hPB6 := hPB5.only hcol.2 hne hPB5.pp
    obtain ⟨w6, hw6⟩ : ∃ w6, w5.setCell ⟨P, 1, none⟩ (.int .i64 (wrap64 (col5 + (n : Int)))) = w6 := ⟨_, rfl⟩
    rw [hw6] at hcol hsrc6 hPB6
    obtain ⟨n1, x1, hraw⟩ := hcol.1.rows.raw
    have hBB := HB.out
    have cL := rdl_calls F g { c with rbuf := v5 } bE bF s rest r n1 x1 w6 (HE.out.ans hcol.1.frm.only) (HE.out.sent hcol.1.frm.only) hcol.1.rows.size (by omega) (by have := HCNL.out; simp only []; omega) hsrc6 hcol.1.rows.csv hraw
    have HF6 := hid_of hcol.1
    have HPB6 := hid_of hPB6
    clear hF5 hO5 hPB5 hsrc5 hP5 hcol hsrc6 hPB6 hraw cQ hBB
    go_upto_region 72 with fail
    clear hw6 p1 g1
    go_upto_region 73 with (go_at_call 51; go_fit cL; rintro e w7 ⟨lb', lo', n', cap', ln', E', raw, off, rfl, hnc', hln', hn2', hseg', hlb', hraw', hcs', ho', hloc', hrdc⟩; dsimp only)
    have hF7 := HF6.out.rdl ho' hcs' hraw' hloc' hlb'
    have hPB7 := HPB6.out.rdl HF6.out.rows ho' ({ c with rbuf := v5 } : CV).nl.succ off raw
    have HF7 := hid_of hF7
    have HPB7 := hid_of hPB7
    have HSEG7 := hid_of hseg'
    have HLN7 := hid_of hln'
    have HRD := hid_of hrdc
    obtain ⟨col7, hP7⟩ := hF7.p.p
    have p0 := hP7.cell (i := 0) rfl
    have g0 := hP7.frozen 0
    have HP7 := hid_of hP7
    clear hF7 hPB7 hseg' hln' hrdc hlb' hraw' hcs' ho' hloc' cL hP7
    go_upto_if 425 with fail
    go_cut [] from 426 to 430 (fun wr' => ∃ pl' : Int, FX g c0 w0 lb' P pl' { c with rbuf := v5, nl := c.nl + 1, off := off, raw := raw } (acc.flatten ++ cur ++ ln) (ixsOf acc) ps wr' ∧ Only (fun k => k = P) w7 wr')
    case first =>
      by_cases hz : n' = 0
      · subst hz
        go_wp2_with fail
        go_meet
        exact ⟨pl, HF7.out, Only.refl _ _⟩
      · have hz' : (0 : Int) < (n' : Int) := by omega
        have h1 := HF7.out.setLine (wrap64 (pl + 1))
        have h2 := h1.1.setCol 1
        obtain ⟨col8, hP8⟩ := h1.1.p.p
        have p1 := hP8.cell (i := 1) rfl
        have g1 := hP8.frozen 1
        have H1 := hid_of h1
        have H2 := hid_of h2
        clear h1 h2 hP8
        go_wp2_with fail
        go_meet
        exact ⟨_, H2.out.1, H1.out.2.trans H2.out.2 (fun _ _ h => h)⟩
    case rest =>
    obtain ⟨pl', hF8, hO8⟩ := hcut
    have hS8 := HE.out.sent hF8.frm.only
    have hE8 : wc.cell? ⟨0, 0, none⟩ = some (.iface 99 (.pointer (some bE))) := hS8.e
    have hseg8 := HF7.out.segP HSEG7.out hO8
    have hPB8 := HPB7.out.only hO8 hne HPB7.out.pp
    have hrdc := HRD.out.only hO8 HF7.out.awayP
    have HF8 := hid_of hF8
    have HSEG8 := hid_of hseg8
    have HPB8 := hid_of hPB8
    have hfin := hF8
    rw [List.append_assoc acc.flatten cur] at hfin
    have HFIN := hid_of hfin
    have heg := hS8.eg
    have hce := hS8.ce
    have hml := lineLen_le rest
    have hBB := HB.out
    have hnorm := norm_length (rest.take (lineLen rest))
    rw [List.length_take] at hnorm
    clear hF8 hO8 hseg8 hPB8 hfin p0 g0 HP7 HF7 HPB7 HSEG7 HRD
    rcases hrdc with ⟨hrne, hE', hfit, hlne', r2, hsr2⟩ | ⟨hre, hE', hlne', r2, hsr2⟩ | ⟨N, hE', hN, hNc, hNb, htr⟩
    · subst hE'
      have hq := eql_nil wc bE
      have HSR2 := hid_of hsr2
      have HLNE' := hid_of hlne'
      have hpos' := lineLen_pos (List.length_pos_iff.2 hrne)
      clear hsr2 hlne'
      go_wp2_with fail
      refine HK.out _ _ _ _ _ _ _ _ _ _ _ _ _ _ _ _ _ _ _ _ _ _ _ _ _ _ _ _ _ _ _ _ _ _ _ _ _ _ _ _ _ _ _ _ _ _ _ _ _ _ _ _ _ _ _ _ _ _ _ _ _ _ _ _ _ _ _ _ _ _ _ _ _ _ _ _ _ _ _ _ _ _ _ _ _ _ _ _ _ _ _ _ _ _ _ _ _ _ _ _ _ _ _ _ _ _ _ _ _ _ _ _ _ _ _ _ _ _ _ _ _ _ _ _ _ _ _ _ _ _ _ _ _ _ _ _ _ _ _ _ _ _ _ _ _ _ _ _ _ _ _ _ _ _ _ _ _ _ _ _ _ _ _ _ _ _ _ _ _ _ _ _ _ _ _ _ _ _ _ _ _ _ _ _ _ _ _ _ _ _ _ _ _ _ _ _ _ _ _ _ _ _ _ _ _ _ _ _ _ _ _ _ _ _ _ _ _ _ _ _ _ _ _ _ _ _ _ _ _ _ _ _ _ _ _ _ _ _ _ _ _ _ _ _ _ _ _ _ _ _ _ _ _ _ _ _ _ _ _ _ _ _ _ _ _ _ _ _ _ _ _ _ _ _ _ _ _ _ _ _ _ _ _ _ _ _ _ _ _ _ _ _ _ _ _ _ _ _ _ _ _ _ _ _ _ _ _ _ _ _ _ _ _ _ _ _ _ _ _ _ _ _ _ _ _ _ _ _ _ _ _ _ _ _ _ _ _ _ _ _ _ _ _ _ _ _ _ _ _ _ _ _ _ _ _ _ _ ⟨lb', lo', n', cap', acc, cur ++ ln, ln', _, ps, pl', fl, rfl, hnc', HLN7.out, HSEG8.out, HFIN.out, HPB8.out, hne, .inl ⟨rfl, _, _, r2, b + 1, HSR2.out, ?_, ?_, .inl ?_, ?_, ?_⟩, HFST.out⟩
      · rw [HLNE'.out, ← HPAR.out]
        exact (par_more HNO.out HLNE.out hrne hfit).symm
      · have := HCNL.out; simp only []; omega
      · rw [List.length_drop]; omega
      · have h1 := HLNE'.out
        have h2 := HLN.out
        rw [h1, List.length_drop, List.length_append]
        omega
      · have h1 := HLNE'.out
        have h2 := HLN.out
        rw [h1, List.length_drop]
        omega
    · have hE2 : E' = .iface 99 (.pointer (some bE)) := hE'
      subst hE2
      have hq := eql_same wc bE
      have HSR2 := hid_of hsr2
      have HLNE' := hid_of hlne'
      have HRE : Hid (R = .err) := by
        show _ = _
        rw [← HPAR.out, hre]
        exact par_eof HNO.out
      clear hsr2 hlne' hE'
      go_wp2_with fail
      refine HK.out _ _ _ _ _ _ _ _ _ _ _ _ _ _ _ _ _ _ _ _ _ _ _ _ _ _ _ _ _ _ _ _ _ _ _ _ _ _ _ _ _ _ _ _ _ _ _ _ _ _ _ _ _ _ _ _ _ _ _ _ _ _ _ _ _ _ _ _ _ _ _ _ _ _ _ _ _ _ _ _ _ _ _ _ _ _ _ _ _ _ _ _ _ _ _ _ _ _ _ _ _ _ _ _ _ _ _ _ _ _ _ _ _ _ _ _ _ _ _ _ _ _ _ _ _ _ _ _ _ _ _ _ _ _ _ _ _ _ _ _ _ _ _ _ _ _ _ _ _ _ _ _ _ _ _ _ _ _ _ _ _ _ _ _ _ _ _ _ _ _ _ _ _ _ _ _ _ _ _ _ _ _ _ _ _ _ _ _ _ _ _ _ _ _ _ _ _ _ _ _ _ _ _ _ _ _ _ _ _ _ _ _ _ _ _ _ _ _ _ _ _ _ _ _ _ _ _ _ _ _ _ _ _ _ _ _ _ _ _ _ _ _ _ _ _ _ _ _ _ _ _ _ _ _ _ _ _ _ _ _ _ _ _ _ _ _ _ _ _ _ _ _ _ _ _ _ _ _ _ _ _ _ _ _ _ _ _ _ _ _ _ _ _ _ _ _ _ _ _ _ _ _ _ _ _ _ _ _ _ _ _ _ _ _ _ _ _ _ _ _ _ _ _ _ _ _ _ _ _ _ _ _ _ _ _ _ _ _ _ _ _ _ _ _ _ _ _ _ _ _ _ _ _ _ _ _ _ ⟨lb', lo', n', cap', acc, cur ++ ln, ln', _, ps, pl', fl, rfl, hnc', HLN7.out, HSEG8.out, HFIN.out, HPB8.out, hne, .inl ⟨rfl, _, [], r2, b + 1, HSR2.out, ?_, ?_, .inr ⟨HLNE'.out, HRE.out⟩, ?_, ?_⟩, HFST.out⟩
      · rw [HLNE'.out, HRE.out]
        exact par_nil
      · have := HCNL.out; simp only []; omega
      · have h1 := HLNE'.out
        have h2 := HLN.out
        rw [h1, List.length_append]
        simp only [List.length_nil]
        omega
      · have h1 := HLNE'.out
        have h2 := HLN.out
        rw [h1]
        simp only [List.length_nil]
        omega
    · have hE2 : E' = .iface 99 (.pointer (some ⟨N, 0, none⟩)) := hE'
      subst hE2
      have hNE : (⟨N, 0, none⟩ : Addr) ≠ bE := trip_ne heg (by omega)
      have hq := eql_other wc ⟨N, 0, none⟩ bE hNE hNc hce
      have HRE : Hid (R = .err) := by
        show _ = _
        rw [← HPAR.out]
        exact par_trip HNO.out htr
      have HNC := hid_of hNc
      clear hE' hNc hNb
      go_wp2_with fail
      refine HK.out _ _ _ _ _ _ _ _ _ _ _ _ _ _ _ _ _ _ _ _ _ _ _ _ _ _ _ _ _ _ _ _ _ _ _ _ _ _ _ _ _ _ _ _ _ _ _ _ _ _ _ _ _ _ _ _ _ _ _ _ _ _ _ _ _ _ _ _ _ _ _ _ _ _ _ _ _ _ _ _ _ _ _ _ _ _ _ _ _ _ _ _ _ _ _ _ _ _ _ _ _ _ _ _ _ _ _ _ _ _ _ _ _ _ _ _ _ _ _ _ _ _ _ _ _ _ _ _ _ _ _ _ _ _ _ _ _ _ _ _ _ _ _ _ _ _ _ _ _ _ _ _ _ _ _ _ _ _ _ _ _ _ _ _ _ _ _ _ _ _ _ _ _ _ _ _ _ _ _ _ _ _ _ _ _ _ _ _ _ _ _ _ _ _ _ _ _ _ _ _ _ _ _ _ _ _ _ _ _ _ _ _ _ _ _ _ _ _ _ _ _ _ _ _ _ _ _ _ _ _ _ _ _ _ _ _ _ _ _ _ _ _ _ _ _ _ _ _ _ _ _ _ _ _ _ _ _ _ _ _ _ _ _ _ _ _ _ _ _ _ _ _ _ _ _ _ _ _ _ _ _ _ _ _ _ _ _ _ _ _ _ _ _ _ _ _ _ _ _ _ _ _ _ _ _ _ _ _ _ _ _ _ _ _ _ _ _ _ _ _ _ _ _ _ _ _ _ _ _ _ _ _ _ _ _ _ _ _ _ _ _ _ _ _ _ _ _ _ _ _ _ _ _ _ _ _ _ ⟨lb', lo', n', cap', acc, cur ++ ln, ln', _, ps, pl', fl, rfl, hnc', HLN7.out, HSEG8.out, HFIN.out, HPB8.out, hne, .inr ⟨N, rfl, hN, HNC.out, HRE.out, ?_, ?_⟩, HFST.out⟩
      · have h1 := HLN7.out
        have h2 := HLN.out
        rw [h1, List.length_append]
        omega
      · have h1 := HLN7.out
        omega
  · cases h
end Go.Proofs.Qxb6614395aFmt
