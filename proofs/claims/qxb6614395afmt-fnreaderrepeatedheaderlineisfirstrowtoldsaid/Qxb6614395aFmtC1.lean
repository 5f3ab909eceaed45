import Derived.Test.Qxb6614395aFmtQ5
import Derived.Test.Qxb6614395aFmtR49
import Derived.Test.Qxb6614395aFmtR55
set_option linter.unusedSimpArgs false
set_option linter.unusedVariables false
namespace Go.Proofs.Qxb6614395aFmt
open Go Go.RowKit Go.Deep Go.Extern.Stop Go.Stop Go.Extern
attribute [local go_sem] str_size str_get str_extract str_toList str_append
set_option maxHeartbeats 6400000 in
set_option maxRecDepth 1000000 in
theorem qA1 {k1 k2 k3 k4 k5 k20 k21 k22 k23 k24 k25 k26 k27 k28 k29 k30 k31 k32 k33 k34 k35 k36 k37 k38 k39 k40 k41 k42 k43 k44 k45 k46 k47 k48 k49 k50 k51 k52 k53 k54 k55 k56 k57 k58 k59 k60 k61 k62 k63 k64 k65 k66 k67 k68 k69 k70 k71 k72 k73 k74 k75 k76 k77 k78 k79 k80 k81 k82 k83 k84 k85 k86 k87 k88 k89 k90 k91 k92 k93 k94 k95 k96 k97 k98 k99 k100 k101 k102 k103 k104 k105 k106 k107 k108 k109 k110 k111 k112 k113 k114 k115 k116 k117 k118 k119 k120 k121 k122 k123 k124 k125 k126 k127 k128 k476 k477 k478 k479 k480 k481 k482 k483 k484 k485 k486 k487 k488 k489 k490 k491 k492 k493 k494 k495 k496 k497 k498 k499 k500 k501 k502 k503 k504 k505 k506 k507 k508 k509 k510 k511 k512 k513 k514 k515 k516 k517 k518 k519 k520 k521 k522 k523 k524 k525 k526 k527 k528 k529 k530 k531 k532 k533 k534 k535 k536 k537 k538 k539 k540 k541 k542 k543 k544 k545 k546 k547 k548 k549 k550 k551 k552 k553 k554 k555 k556 k557 k558 k559 u12 u13 u14 u15 u16 u18 u19 u129 u130 u131 u132 u133 u134 u135 u136 u137 u138 u139 u140 u141 u142 u143 u144 u145 u146 u147 u148 u149 u150 u151 u152 u153 u154 u155 u156 u157 u158 u159 u160 u161 u162 u163 u164 u165 u166 u167 u168 u169 u170 u171 u172 u173 u174 u175 u176 u177 u178 u179 u180 u181 u182 u183 u184 u185 u186 u187 u188 u189 u190 u191 u192 u193 u194 u195 u196 u197 u198 u199 u200 u201 u202 u203 u204 u205 u206 u207 u208 u209 u210 u211 u212 u213 u214 u215 u216 u217 u218 u219 u220 u221 u222 u223 u224 u225 u226 u227 u228 u229 u230 u231 u232 u233 u234 u235 u236 u237 u238 u239 u240 u241 u242 u243 u244 u245 u246 u247 u248 u249 u250 u251 u252 u253 u254 u255 u256 u257 u258 u259 u260 u261 u262 u263 u264 u265 u266 u267 u268 u269 u270 u271 u272 u273 u274 u275 u276 u277 u278 u279 u280 u281 u282 u283 u284 u285 u286 u287 u288 u289 u290 u291 u292 u293 u294 u295 u296 u297 u298 u299 u300 u301 u302 u303 u304 u305 u306 u307 u308 u309 u310 u311 u312 u313 u314 u315 u316 u317 u318 u319 u320 u321 u322 u323 u324 u325 u326 u327 u328 u329 u330 u331 u332 u333 u334 u335 u336 u337 u338 u339 u340 u341 u342 u343 u344 u345 u346 u347 u348 u349 u350 u351 u352 u353 u354 u355 u356 u357 u358 u359 u360 u361 u362 u363 u364 u365 u366 u367 u368 u369 u370 u371 u372 u373 u374 u375 u376 u377 u378 u379 u380 u381 u382 u383 u384 u385 u386 u387 u388 u389 u390 u391 u392 u393 u394 u395 u396 u397 u398 u399 u400 u401 u402 u403 u404 u405 u406 u407 u408 u409 u410 u411 u412 u413 u414 u415 u416 u417 u418 u419 u420 u421 u422 u423 u424 u425 u426 u427 u428 u429 u430 u431 u432 u433 u434 u435 u436 u437 u438 u439 u440 u441 u442 u443 u444 u445 u446 u447 u448 u449 u450 u451 u452 u453 u454 u455 u456 u457 u458 u459 u460 u461 u462 u463 u464 u465 u466 u467 u468 u469 u470 u471 u472 u473 u474 u475 : Value} {F : Interp} {g : Nat} {bE bF : Addr} {R : QRes} {nl0 a : Nat} {c0 : CV} {w0 : World} {P : Nat} {r10 : Int} {FB f lb lo n cap : Nat} {acc : List (List UInt8)} {cur ln : List UInt8} {c : CV} {ps : List Value} {pl fl : Int} {v7 : Value} {w : World} {K : Act → World → Prop} {Q' : Exit → Act → World → Prop}
    (E : Env F g bE bF c0 w0) (hnc : n ≤ cap) (hln : ln.length = n) (hseg : Seg w lb lo ln) (hFX : FX g c0 w0 lb P pl c (acc.flatten ++ cur) (ixsOf acc) ps w) (hPB : PB g c w0 FB fl w) (hne : FB ≠ P)
    (hRQ : RQ g bE R nl0 a acc (some cur) ln c.nl (acc.flatten.length + cur.length + acc.length) (f + 1) v7 w) (hfst : Fst nl0 a acc ps fl)
    {i : Nat} (hi : Lib.indexByte ln 34 = (i : Int)) (hh : (ln.drop (i + 1)).head? = some 34)
    (hK : ∀ (u12 u13 u14 u15 u16 u18 u19 u129 u130 u131 u132 u133 u134 u135 u136 u137 u138 u139 u140 u141 u142 u143 u144 u145 u146 u147 u148 u149 u150 u151 u152 u153 u154 u155 u156 u157 u158 u159 u160 u161 u162 u163 u164 u165 u166 u167 u168 u169 u170 u171 u172 u173 u174 u175 u176 u177 u178 u179 u180 u181 u182 u183 u184 u185 u186 u187 u188 u189 u190 u191 u192 u193 u194 u195 u196 u197 u198 u199 u200 u201 u202 u203 u204 u205 u206 u207 u208 u209 u210 u211 u212 u213 u214 u215 u216 u217 u218 u219 u220 u221 u222 u223 u224 u225 u226 u227 u228 u229 u230 u231 u232 u233 u234 u235 u236 u237 u238 u239 u240 u241 u242 u243 u244 u245 u246 u247 u248 u249 u250 u251 u252 u253 u254 u255 u256 u257 u258 u259 u260 u261 u262 u263 u264 u265 u266 u267 u268 u269 u270 u271 u272 u273 u274 u275 u276 u277 u278 u279 u280 u281 u282 u283 u284 u285 u286 u287 u288 u289 u290 u291 u292 u293 u294 u295 u296 u297 u298 u299 u300 u301 u302 u303 u304 u305 u306 u307 u308 u309 u310 u311 u312 u313 u314 u315 u316 u317 u318 u319 u320 u321 u322 u323 u324 u325 u326 u327 u328 u329 u330 u331 u332 u333 u334 u335 u336 u337 u338 u339 u340 u341 u342 u343 u344 u345 u346 u347 u348 u349 u350 u351 u352 u353 u354 u355 u356 u357 u358 u359 u360 u361 u362 u363 u364 u365 u366 u367 u368 u369 u370 u371 u372 u373 u374 u375 u376 u377 u378 u379 u380 u381 u382 u383 u384 u385 u386 u387 u388 u389 u390 u391 u392 u393 u394 u395 u396 u397 u398 u399 u400 u401 u402 u403 u404 u405 u406 u407 u408 u409 u410 u411 u412 u413 u414 u415 u416 u417 u418 u419 u420 u421 u422 u423 u424 u425 u426 u427 u428 u429 u430 u431 u432 u433 u434 u435 u436 u437 u438 u439 u440 u441 u442 u443 u444 u445 u446 u447 u448 u449 u450 u451 u452 u453 u454 u455 u456 u457 u458 u459 u460 u461 u462 u463 u464 u465 u466 u467 u468 u469 u470 u471 u472 u473 u474 u475 v6 v7 : Value) (w' : World), StQ g bE R nl0 a c0 w0 P FB f v6 v7 w' → K ⟨#[.pointer (some ⟨g + 4, 0, none⟩), k1, k2, k3, k4, k5, v6, v7, .nilIface, .int .i64 1, .int .i64 r10, .pointer (some ⟨P, 0, none⟩), u12, u13, u14, u15, u16, .pointer (some ⟨FB, 0, none⟩), u18, u19, k20, k21, k22, k23, k24, k25, k26, k27, k28, k29, k30, k31, k32, k33, k34, k35, k36, k37, k38, k39, k40, k41, k42, k43, k44, k45, k46, k47, k48, k49, k50, k51, k52, k53, k54, k55, k56, k57, k58, k59, k60, k61, k62, k63, k64, k65, k66, k67, k68, k69, k70, k71, k72, k73, k74, k75, k76, k77, k78, k79, k80, k81, k82, k83, k84, k85, k86, k87, k88, k89, k90, k91, k92, k93, k94, k95, k96, k97, k98, k99, k100, k101, k102, k103, k104, k105, k106, k107, k108, k109, k110, k111, k112, k113, k114, k115, k116, k117, k118, k119, k120, k121, k122, k123, k124, k125, k126, k127, k128, u129, u130, u131, u132, u133, u134, u135, u136, u137, u138, u139, u140, u141, u142, u143, u144, u145, u146, u147, u148, u149, u150, u151, u152, u153, u154, u155, u156, u157, u158, u159, u160, u161, u162, u163, u164, u165, u166, u167, u168, u169, u170, u171, u172, u173, u174, u175, u176, u177, u178, u179, u180, u181, u182, u183, u184, u185, u186, u187, u188, u189, u190, u191, u192, u193, u194, u195, u196, u197, u198, u199, u200, u201, u202, u203, u204, u205, u206, u207, u208, u209, u210, u211, u212, u213, u214, u215, u216, u217, u218, u219, u220, u221, u222, u223, u224, u225, u226, u227, u228, u229, u230, u231, u232, u233, u234, u235, u236, u237, u238, u239, u240, u241, u242, u243, u244, u245, u246, u247, u248, u249, u250, u251, u252, u253, u254, u255, u256, u257, u258, u259, u260, u261, u262, u263, u264, u265, u266, u267, u268, u269, u270, u271, u272, u273, u274, u275, u276, u277, u278, u279, u280, u281, u282, u283, u284, u285, u286, u287, u288, u289, u290, u291, u292, u293, u294, u295, u296, u297, u298, u299, u300, u301, u302, u303, u304, u305, u306, u307, u308, u309, u310, u311, u312, u313, u314, u315, u316, u317, u318, u319, u320, u321, u322, u323, u324, u325, u326, u327, u328, u329, u330, u331, u332, u333, u334, u335, u336, u337, u338, u339, u340, u341, u342, u343, u344, u345, u346, u347, u348, u349, u350, u351, u352, u353, u354, u355, u356, u357, u358, u359, u360, u361, u362, u363, u364, u365, u366, u367, u368, u369, u370, u371, u372, u373, u374, u375, u376, u377, u378, u379, u380, u381, u382, u383, u384, u385, u386, u387, u388, u389, u390, u391, u392, u393, u394, u395, u396, u397, u398, u399, u400, u401, u402, u403, u404, u405, u406, u407, u408, u409, u410, u411, u412, u413, u414, u415, u416, u417, u418, u419, u420, u421, u422, u423, u424, u425, u426, u427, u428, u429, u430, u431, u432, u433, u434, u435, u436, u437, u438, u439, u440, u441, u442, u443, u444, u445, u446, u447, u448, u449, u450, u451, u452, u453, u454, u455, u456, u457, u458, u459, u460, u461, u462, u463, u464, u465, u466, u467, u468, u469, u470, u471, u472, u473, u474, u475, k476, k477, k478, k479, k480, k481, k482, k483, k484, k485, k486, k487, k488, k489, k490, k491, k492, k493, k494, k495, k496, k497, k498, k499, k500, k501, k502, k503, k504, k505, k506, k507, k508, k509, k510, k511, k512, k513, k514, k515, k516, k517, k518, k519, k520, k521, k522, k523, k524, k525, k526, k527, k528, k529, k530, k531, k532, k533, k534, k535, k536, k537, k538, k539, k540, k541, k542, k543, k544, k545, k546, k547, k548, k549, k550, k551, k552, k553, k554, k555, k556, k557, k558, k559], []⟩ w') :
    Code.wp Tryf.prog qBody (Exit.then K Q') ⟨#[.pointer (some ⟨g + 4, 0, none⟩), k1, k2, k3, k4, k5, .slice (some ⟨lb, lo, none⟩) n cap, v7, .nilIface, .int .i64 1, .int .i64 r10, .pointer (some ⟨P, 0, none⟩), u12, u13, u14, u15, u16, .pointer (some ⟨FB, 0, none⟩), u18, u19, k20, k21, k22, k23, k24, k25, k26, k27, k28, k29, k30, k31, k32, k33, k34, k35, k36, k37, k38, k39, k40, k41, k42, k43, k44, k45, k46, k47, k48, k49, k50, k51, k52, k53, k54, k55, k56, k57, k58, k59, k60, k61, k62, k63, k64, k65, k66, k67, k68, k69, k70, k71, k72, k73, k74, k75, k76, k77, k78, k79, k80, k81, k82, k83, k84, k85, k86, k87, k88, k89, k90, k91, k92, k93, k94, k95, k96, k97, k98, k99, k100, k101, k102, k103, k104, k105, k106, k107, k108, k109, k110, k111, k112, k113, k114, k115, k116, k117, k118, k119, k120, k121, k122, k123, k124, k125, k126, k127, k128, u129, u130, u131, u132, u133, u134, u135, u136, u137, u138, u139, u140, u141, u142, u143, u144, u145, u146, u147, u148, u149, u150, u151, u152, u153, u154, u155, u156, u157, u158, u159, u160, u161, u162, u163, u164, u165, u166, u167, u168, u169, u170, u171, u172, u173, u174, u175, u176, u177, u178, u179, u180, u181, u182, u183, u184, u185, u186, u187, u188, u189, u190, u191, u192, u193, u194, u195, u196, u197, u198, u199, u200, u201, u202, u203, u204, u205, u206, u207, u208, u209, u210, u211, u212, u213, u214, u215, u216, u217, u218, u219, u220, u221, u222, u223, u224, u225, u226, u227, u228, u229, u230, u231, u232, u233, u234, u235, u236, u237, u238, u239, u240, u241, u242, u243, u244, u245, u246, u247, u248, u249, u250, u251, u252, u253, u254, u255, u256, u257, u258, u259, u260, u261, u262, u263, u264, u265, u266, u267, u268, u269, u270, u271, u272, u273, u274, u275, u276, u277, u278, u279, u280, u281, u282, u283, u284, u285, u286, u287, u288, u289, u290, u291, u292, u293, u294, u295, u296, u297, u298, u299, u300, u301, u302, u303, u304, u305, u306, u307, u308, u309, u310, u311, u312, u313, u314, u315, u316, u317, u318, u319, u320, u321, u322, u323, u324, u325, u326, u327, u328, u329, u330, u331, u332, u333, u334, u335, u336, u337, u338, u339, u340, u341, u342, u343, u344, u345, u346, u347, u348, u349, u350, u351, u352, u353, u354, u355, u356, u357, u358, u359, u360, u361, u362, u363, u364, u365, u366, u367, u368, u369, u370, u371, u372, u373, u374, u375, u376, u377, u378, u379, u380, u381, u382, u383, u384, u385, u386, u387, u388, u389, u390, u391, u392, u393, u394, u395, u396, u397, u398, u399, u400, u401, u402, u403, u404, u405, u406, u407, u408, u409, u410, u411, u412, u413, u414, u415, u416, u417, u418, u419, u420, u421, u422, u423, u424, u425, u426, u427, u428, u429, u430, u431, u432, u433, u434, u435, u436, u437, u438, u439, u440, u441, u442, u443, u444, u445, u446, u447, u448, u449, u450, u451, u452, u453, u454, u455, u456, u457, u458, u459, u460, u461, u462, u463, u464, u465, u466, u467, u468, u469, u470, u471, u472, u473, u474, u475, k476, k477, k478, k479, k480, k481, k482, k483, k484, k485, k486, k487, k488, k489, k490, k491, k492, k493, k494, k495, k496, k497, k498, k499, k500, k501, k502, k503, k504, k505, k506, k507, k508, k509, k510, k511, k512, k513, k514, k515, k516, k517, k518, k519, k520, k521, k522, k523, k524, k525, k526, k527, k528, k529, k530, k531, k532, k533, k534, k535, k536, k537, k538, k539, k540, k541, k542, k543, k544, k545, k546, k547, k548, k549, k550, k551, k552, k553, k554, k555, k556, k557, k558, k559], []⟩ w := by
  have HE := hid_of E
  have HLN := hid_of hln
  have HSEG := hid_of hseg
  have HFX := hid_of hFX
  have HPB := hid_of hPB
  have HRQ := hid_of hRQ
  have HFST := hid_of hfst
  have HK := hid_of hK
  have hbd := hRQ.bound
  rw [hln] at hbd
  obtain ⟨hi1, hi2, -⟩ := indexByte_some hi
  have hin : i < n := by omega
  have hmem : 34 ∈ ln := by rw [← hi2]; exact List.getElem_mem hi1
  have hix : idx ln 34 = i := by unfold idx; rw [hi]; rfl
  have cQ := index_calls w lb lo n cap ln hln hseg 34
  rw [show ((34 : Int).toNat).toUInt8 = 34 by rfl, hi] at cQ
  have HMEM := hid_of hmem
  have HIX := hid_of hix
  have HH := hid_of hh
  clear E hln hseg hFX hPB hRQ hfst hK
  clear hi hi1 hi2 hmem hix hh
  conv => arg 2; whnf
  go_upto_region 49 with (go_at_call 30; go_fit cQ; rintro e wd ⟨rfl, rfl⟩; dsimp only)
  refine rbuf49 (l := ln.take i) HFX.out (by rw [List.length_take, HLN.out]; omega) (HSEG.out.take i) (by omega) (by rw [List.length_append]; omega) ?_
  intro y262 y263 y264 y265 y266 y267 y268 y269 y270 y271 y272 v5 w5 hF5 hO5
  have hseg5 := HFX.out.segRbuf HSEG.out hO5
  have hPB5 := HPB.out.appRbuf HFX.out.rows hO5 v5
  have hRQ5 := HRQ.out.only hO5 HFX.out.awayRbuf
  obtain ⟨col5, hP5⟩ := hF5.p.p
  have p1 := hP5.cell (i := 1) rfl
  have g1 := hP5.frozen 1
  have hcol := hF5.setCol (wrap64 (col5 + ((i : Int) + 1)))
  obtain ⟨o2, hqa, hseg6⟩ := cut_at (hF5.segP hseg5 hcol.2) HLN.out hnc (j := i + 1) (by omega)
  obtain ⟨w6, hw6⟩ : ∃ w6, w5.setCell ⟨P, 1, none⟩ (.int .i64 (wrap64 (col5 + ((i : Int) + 1)))) = w6 := ⟨_, rfl⟩
  rw [hw6] at hcol hseg6
  have hPB6 : PB g { c with rbuf := v5 } w0 FB fl w6 := hPB5.only hcol.2 hne hPB5.pp
  have hRQ6 := hRQ5.only hcol.2 hF5.awayP
  have hlen2 : (ln.drop (i + 1)).length = n - (i + 1) := by rw [List.length_drop, HLN.out]
  obtain ⟨n2, hn2⟩ : ∃ n2, n - (i + 1) = n2 := ⟨_, rfl⟩
  obtain ⟨cap2, hcap2⟩ : ∃ cap2, cap - (i + 1) = cap2 := ⟨_, rfl⟩
  have hnc2 : n2 ≤ cap2 := by omega
  have hn2le : n2 ≤ n := by omega
  rw [hn2] at hlen2
  have cN := nr_calls w6 lb o2 n2 cap2 (ln.drop (i + 1)) hlen2 hseg6 (HE.out.tab hcol.1.frm.only)
  have j0 : (0 : Int) ≤ (i : Int) + 1 := by omega
  have j1 : (i : Int) + 1 ≤ (n : Int) := by omega
  have j2 : ((i : Int) + 1).toNat = i + 1 := by omega
  have j3 : IntKind.i64.wrap ((i : Int) + 1) = (i : Int) + 1 := IntWalk.i64_in _ (by omega)
  have hnj : (n : Int) ≤ (cap : Int) := by omega
  have HF6 := hid_of hcol.1
  have HSEG6 := hid_of hseg6
  have HPB6 := hid_of hPB6
  have HRQ6 := hid_of hRQ6
  have HL2 := hid_of hlen2
  have HN2 := hid_of hn2
  clear hF5 hO5 hseg5 hPB5 hRQ5 hP5 hcol hseg6 hPB6 hRQ6 hlen2 cQ
  go_upto_region 52 with fail
  clear hw6 p1 g1 hqa j0 j1 j2 j3 hnj hn2 hcap2
  go_upto_region 54 with (go_at_call 52; go_fit cN; rintro e w7 ⟨⟨x, rfl, hx34, hx44⟩, hO7⟩; dsimp only)
  have hF7 := HF6.out.new hO7
  have hseg7 := HF6.out.segNew HSEG6.out hO7
  have hPB7 := HPB6.out.new hO7
  have hRQ7 := HRQ6.out.only hO7 (fun _ _ h => h)
  clear cN
  obtain rfl := hx34.2 HH.out
  have hpos : 0 < n2 := by
    have := HH.out
    have h2 := HL2.out
    cases hd : ln.drop (i + 1) with
    | nil => rw [hd] at this; cases this
    | cons x t => rw [hd] at h2; simp at h2; omega
  have HF7 := hid_of hF7
  have HSEG7 := hid_of hseg7
  have HPB7 := hid_of hPB7
  have HRQ7 := hid_of hRQ7
  clear hF7 hseg7 hPB7 hRQ7 hO7 hx34 hx44
  go_upto_region 55 with fail
  refine rbuf55 HF7.out (by have h1 := HL2.out; rw [List.length_append, List.length_append, List.length_take, HLN.out]; omega) ?_
  intro y300 y301 y302 y303 y304 y305 y306 y307 y308 v8 w8 hF8 hO8
  have hseg8 := HF7.out.segRbuf HSEG7.out hO8
  have hPB8 := HPB7.out.appRbuf HF7.out.rows hO8 v8
  have hRQ8 := HRQ7.out.only hO8 HF7.out.awayRbuf
  obtain ⟨col8, hP8⟩ := hF8.p.p
  have p1 := hP8.cell (i := 1) rfl
  have g1 := hP8.frozen 1
  have hcol := hF8.setCol (wrap64 (col8 + 1))
  obtain ⟨o3, hqa, hseg9⟩ := cut_at (hF8.segP hseg8 hcol.2) HL2.out hnc2 (j := 1) (by omega)
  have hPB9 := hPB8.only hcol.2 hne hPB8.pp
  have hRQ9 := hRQ8.only hcol.2 hF8.awayP
  have hn1 : (1 : Int) ≤ (n2 : Int) := by omega
  have hn3 : (n2 : Int) ≤ (cap2 : Int) := by omega
  have HF9 := hid_of hcol.1
  have HSEG9 := hid_of hseg9
  have HPB9 := hid_of hPB9
  have HRQ9 := hid_of hRQ9
  clear hF8 hO8 hseg8 hPB8 hRQ8 hP8 hcol hseg9 hPB9 hRQ9
  go_wp2_with fail
  refine HK.out _ _ _ _ _ _ _ _ _ _ _ _ _ _ _ _ _ _ _ _ _ _ _ _ _ _ _ _ _ _ _ _ _ _ _ _ _ _ _ _ _ _ _ _ _ _ _ _ _ _ _ _ _ _ _ _ _ _ _ _ _ _ _ _ _ _ _ _ _ _ _ _ _ _ _ _ _ _ _ _ _ _ _ _ _ _ _ _ _ _ _ _ _ _ _ _ _ _ _ _ _ _ _ _ _ _ _ _ _ _ _ _ _ _ _ _ _ _ _ _ _ _ _ _ _ _ _ _ _ _ _ _ _ _ _ _ _ _ _ _ _ _ _ _ _ _ _ _ _ _ _ _ _ _ _ _ _ _ _ _ _ _ _ _ _ _ _ _ _ _ _ _ _ _ _ _ _ _ _ _ _ _ _ _ _ _ _ _ _ _ _ _ _ _ _ _ _ _ _ _ _ _ _ _ _ _ _ _ _ _ _ _ _ _ _ _ _ _ _ _ _ _ _ _ _ _ _ _ _ _ _ _ _ _ _ _ _ _ _ _ _ _ _ _ _ _ _ _ _ _ _ _ _ _ _ _ _ _ _ _ _ _ _ _ _ _ _ _ _ _ _ _ _ _ _ _ _ _ _ _ _ _ _ _ _ _ _ _ _ _ _ _ _ _ _ _ _ _ _ _ _ _ _ _ _ _ _ _ _ _ _ _ _ _ _ _ _ _ _ _ _ _ _ _ _ _ _ _ _ _ _ _ _ _ _ _ _ _ _ _ _ _ _ _ _ _ _ _ _ _ _ _ _ _ _ _ _ ⟨lb, o3, n2 - 1, cap2 - 1, acc, cur ++ ln.take i ++ [34], (ln.drop (i + 1)).drop 1, _, ps, pl, fl, rfl, by omega, by rw [List.length_drop, HL2.out], HSEG9.out, ?_, HPB9.out, hne, ?_, HFST.out⟩
  · have h := HF9.out
    rw [List.append_assoc acc.flatten cur, List.append_assoc acc.flatten] at h
    exact h
  · refine HRQ9.out.step (fun s rest b => ?_) ?_ ?_
    · have := par_two (acc := acc) (c := cur) (s := s) (rest := rest) (a := a) (b := b) HMEM.out (by rw [HIX.out]; exact HH.out)
      rw [HIX.out] at this
      exact this
    · rw [List.length_append, List.length_append, List.length_take, List.length_drop, List.length_drop, HLN.out]
      simp only [List.length_singleton]
      omega
    · rw [List.length_drop, List.length_drop, HLN.out]; omega
end Go.Proofs.Qxb6614395aFmt
