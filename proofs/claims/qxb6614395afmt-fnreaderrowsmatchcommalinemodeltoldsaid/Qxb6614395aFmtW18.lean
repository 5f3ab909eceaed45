import Derived.Test.Qxb6614395aFmtW17
import Derived.Deep.RegionLaw
set_option linter.unusedSimpArgs false
set_option linter.unusedVariables false
namespace Go.Proofs.Qxb6614395aFmt
open Go Go.RowKit Go.Deep Go.Extern.Stop Go.Stop Go.Extern
attribute [local go_sem] str_size str_get str_extract str_toList str_append

/-- The loops of a code, in the text's order. -/
def loopsOf : Code → List Code
  | .loop c => c :: loopsOf c
  | .seq a b => loopsOf a ++ loopsOf b
  | .block _ c => loopsOf c
  | .scope c => loopsOf c
  | .cond _ a b => loopsOf a ++ loopsOf b
  | _ => []
/-- The loop over a record's fields. -/
noncomputable def fldBody : Code := ((Tryf.f38.body.map loopsOf).getD [])[1]?.getD .skip

set_option maxHeartbeats 6400000 in
set_option maxRecDepth 1000000 in
theorem fld_rounds (g : Nat) (bE : Addr) (R : RRes) (flds : List (List UInt8)) (c0 : CV) (w0 : World) (v7 : Value) (nl lb P : Nat) (Q : Exit → Act → World → Prop)
    (k1 k2 k3 k4 k5 k10 k20 k21 k22 k23 k24 k25 k26 k27 k28 k29 k30 k31 k32 k33 k34 k35 k36 k37 k38 k39 k40 k41 k42 k43 k44 k45 k46 k47 k48 k49 k50 k51 k52 k53 k54 k55 k56 k57 k58 k59 k60 k61 k62 k63 k64 k65 k66 k67 k68 k69 k70 k71 k72 k73 k74 k75 k76 k77 k78 k79 k80 k81 k82 k83 k84 k85 k86 k87 k88 k89 k90 k91 k92 k93 k94 k95 k96 k97 k98 k99 k100 k101 k102 k103 k104 k105 k106 k107 k108 k109 k110 k111 k112 k113 k114 k115 k116 k117 k118 k119 k120 k121 k122 k123 k124 k125 k126 k127 k128 k476 k477 k478 k479 k480 k481 k482 k483 k484 k485 k486 k487 k488 k489 k490 k491 k492 k493 k494 k495 k496 k497 k498 k499 k500 k501 k502 k503 k504 k505 k506 k507 k508 k509 k510 k511 k512 k513 k514 k515 k516 k517 k518 k519 k520 k521 k522 k523 k524 k525 k526 k527 k528 k529 k530 k531 k532 k533 k534 k535 k536 k537 k538 k539 k540 k541 k542 k543 k544 k545 k546 k547 k548 k549 k550 k551 k552 k553 k554 k555 k556 k557 k558 k559 : Value)
    (hQ : ∀ (u12 u13 u14 u15 u16 u17 u18 u19 u129 u130 u131 u132 u133 u134 u135 u136 u137 u138 u139 u140 u141 u142 u143 u144 u145 u146 u147 u148 u149 u150 u151 u152 u153 u154 u155 u156 u157 u158 u159 u160 u161 u162 u163 u164 u165 u166 u167 u168 u169 u170 u171 u172 u173 u174 u175 u176 u177 u178 u179 u180 u181 u182 u183 u184 u185 u186 u187 u188 u189 u190 u191 u192 u193 u194 u195 u196 u197 u198 u199 u200 u201 u202 u203 u204 u205 u206 u207 u208 u209 u210 u211 u212 u213 u214 u215 u216 u217 u218 u219 u220 u221 u222 u223 u224 u225 u226 u227 u228 u229 u230 u231 u232 u233 u234 u235 u236 u237 u238 u239 u240 u241 u242 u243 u244 u245 u246 u247 u248 u249 u250 u251 u252 u253 u254 u255 u256 u257 u258 u259 u260 u261 u262 u263 u264 u265 u266 u267 u268 u269 u270 u271 u272 u273 u274 u275 u276 u277 u278 u279 u280 u281 u282 u283 u284 u285 u286 u287 u288 u289 u290 u291 u292 u293 u294 u295 u296 u297 u298 u299 u300 u301 u302 u303 u304 u305 u306 u307 u308 u309 u310 u311 u312 u313 u314 u315 u316 u317 u318 u319 u320 u321 u322 u323 u324 u325 u326 u327 u328 u329 u330 u331 u332 u333 u334 u335 u336 u337 u338 u339 u340 u341 u342 u343 u344 u345 u346 u347 u348 u349 u350 u351 u352 u353 u354 u355 u356 u357 u358 u359 u360 u361 u362 u363 u364 u365 u366 u367 u368 u369 u370 u371 u372 u373 u374 u375 u376 u377 u378 u379 u380 u381 u382 u383 u384 u385 u386 u387 u388 u389 u390 u391 u392 u393 u394 u395 u396 u397 u398 u399 u400 u401 u402 u403 u404 u405 u406 u407 u408 u409 u410 u411 u412 u413 u414 u415 u416 u417 u418 u419 u420 u421 u422 u423 u424 u425 u426 u427 u428 u429 u430 u431 u432 u433 u434 u435 u436 u437 u438 u439 u440 u441 u442 u443 u444 u445 u446 u447 u448 u449 u450 u451 u452 u453 u454 u455 u456 u457 u458 u459 u460 u461 u462 u463 u464 u465 u466 u467 u468 u469 u470 u471 u472 u473 u474 u475 u6 : Value) (c' : CV) (ps : List Value) (wr : World), FS g bE R flds c0 w0 v7 nl lb P c' flds.flatten (ixsOf flds) ps wr → (∃ col t, ps = .int .i64 nl :: .int .i64 col :: t) → Q (.exit 2) ⟨#[.pointer (some ⟨g + 4, 0, none⟩), k1, k2, k3, k4, k5, u6, v7, .nilIface, .int .i64 1, k10, .pointer (some ⟨P, 0, none⟩), u12, u13, u14, u15, u16, u17, u18, u19, k20, k21, k22, k23, k24, k25, k26, k27, k28, k29, k30, k31, k32, k33, k34, k35, k36, k37, k38, k39, k40, k41, k42, k43, k44, k45, k46, k47, k48, k49, k50, k51, k52, k53, k54, k55, k56, k57, k58, k59, k60, k61, k62, k63, k64, k65, k66, k67, k68, k69, k70, k71, k72, k73, k74, k75, k76, k77, k78, k79, k80, k81, k82, k83, k84, k85, k86, k87, k88, k89, k90, k91, k92, k93, k94, k95, k96, k97, k98, k99, k100, k101, k102, k103, k104, k105, k106, k107, k108, k109, k110, k111, k112, k113, k114, k115, k116, k117, k118, k119, k120, k121, k122, k123, k124, k125, k126, k127, k128, u129, u130, u131, u132, u133, u134, u135, u136, u137, u138, u139, u140, u141, u142, u143, u144, u145, u146, u147, u148, u149, u150, u151, u152, u153, u154, u155, u156, u157, u158, u159, u160, u161, u162, u163, u164, u165, u166, u167, u168, u169, u170, u171, u172, u173, u174, u175, u176, u177, u178, u179, u180, u181, u182, u183, u184, u185, u186, u187, u188, u189, u190, u191, u192, u193, u194, u195, u196, u197, u198, u199, u200, u201, u202, u203, u204, u205, u206, u207, u208, u209, u210, u211, u212, u213, u214, u215, u216, u217, u218, u219, u220, u221, u222, u223, u224, u225, u226, u227, u228, u229, u230, u231, u232, u233, u234, u235, u236, u237, u238, u239, u240, u241, u242, u243, u244, u245, u246, u247, u248, u249, u250, u251, u252, u253, u254, u255, u256, u257, u258, u259, u260, u261, u262, u263, u264, u265, u266, u267, u268, u269, u270, u271, u272, u273, u274, u275, u276, u277, u278, u279, u280, u281, u282, u283, u284, u285, u286, u287, u288, u289, u290, u291, u292, u293, u294, u295, u296, u297, u298, u299, u300, u301, u302, u303, u304, u305, u306, u307, u308, u309, u310, u311, u312, u313, u314, u315, u316, u317, u318, u319, u320, u321, u322, u323, u324, u325, u326, u327, u328, u329, u330, u331, u332, u333, u334, u335, u336, u337, u338, u339, u340, u341, u342, u343, u344, u345, u346, u347, u348, u349, u350, u351, u352, u353, u354, u355, u356, u357, u358, u359, u360, u361, u362, u363, u364, u365, u366, u367, u368, u369, u370, u371, u372, u373, u374, u375, u376, u377, u378, u379, u380, u381, u382, u383, u384, u385, u386, u387, u388, u389, u390, u391, u392, u393, u394, u395, u396, u397, u398, u399, u400, u401, u402, u403, u404, u405, u406, u407, u408, u409, u410, u411, u412, u413, u414, u415, u416, u417, u418, u419, u420, u421, u422, u423, u424, u425, u426, u427, u428, u429, u430, u431, u432, u433, u434, u435, u436, u437, u438, u439, u440, u441, u442, u443, u444, u445, u446, u447, u448, u449, u450, u451, u452, u453, u454, u455, u456, u457, u458, u459, u460, u461, u462, u463, u464, u465, u466, u467, u468, u469, u470, u471, u472, u473, u474, u475, k476, k477, k478, k479, k480, k481, k482, k483, k484, k485, k486, k487, k488, k489, k490, k491, k492, k493, k494, k495, k496, k497, k498, k499, k500, k501, k502, k503, k504, k505, k506, k507, k508, k509, k510, k511, k512, k513, k514, k515, k516, k517, k518, k519, k520, k521, k522, k523, k524, k525, k526, k527, k528, k529, k530, k531, k532, k533, k534, k535, k536, k537, k538, k539, k540, k541, k542, k543, k544, k545, k546, k547, k548, k549, k550, k551, k552, k553, k554, k555, k556, k557, k558, k559], []⟩ wr) :
    ∀ (f : Nat) (acc : List (List UInt8)) (lnr : List UInt8) (lo' n' cap' : Nat) (c' : CV) (ps : List Value) (wr : World) (u12 u13 u14 u15 u16 u17 u18 u19 u129 u130 u131 u132 u133 u134 u135 u136 u137 u138 u139 u140 u141 u142 u143 u144 u145 u146 u147 u148 u149 u150 u151 u152 u153 u154 u155 u156 u157 u158 u159 u160 u161 u162 u163 u164 u165 u166 u167 u168 u169 u170 u171 u172 u173 u174 u175 u176 u177 u178 u179 u180 u181 u182 u183 u184 u185 u186 u187 u188 u189 u190 u191 u192 u193 u194 u195 u196 u197 u198 u199 u200 u201 u202 u203 u204 u205 u206 u207 u208 u209 u210 u211 u212 u213 u214 u215 u216 u217 u218 u219 u220 u221 u222 u223 u224 u225 u226 u227 u228 u229 u230 u231 u232 u233 u234 u235 u236 u237 u238 u239 u240 u241 u242 u243 u244 u245 u246 u247 u248 u249 u250 u251 u252 u253 u254 u255 u256 u257 u258 u259 u260 u261 u262 u263 u264 u265 u266 u267 u268 u269 u270 u271 u272 u273 u274 u275 u276 u277 u278 u279 u280 u281 u282 u283 u284 u285 u286 u287 u288 u289 u290 u291 u292 u293 u294 u295 u296 u297 u298 u299 u300 u301 u302 u303 u304 u305 u306 u307 u308 u309 u310 u311 u312 u313 u314 u315 u316 u317 u318 u319 u320 u321 u322 u323 u324 u325 u326 u327 u328 u329 u330 u331 u332 u333 u334 u335 u336 u337 u338 u339 u340 u341 u342 u343 u344 u345 u346 u347 u348 u349 u350 u351 u352 u353 u354 u355 u356 u357 u358 u359 u360 u361 u362 u363 u364 u365 u366 u367 u368 u369 u370 u371 u372 u373 u374 u375 u376 u377 u378 u379 u380 u381 u382 u383 u384 u385 u386 u387 u388 u389 u390 u391 u392 u393 u394 u395 u396 u397 u398 u399 u400 u401 u402 u403 u404 u405 u406 u407 u408 u409 u410 u411 u412 u413 u414 u415 u416 u417 u418 u419 u420 u421 u422 u423 u424 u425 u426 u427 u428 u429 u430 u431 u432 u433 u434 u435 u436 u437 u438 u439 u440 u441 u442 u443 u444 u445 u446 u447 u448 u449 u450 u451 u452 u453 u454 u455 u456 u457 u458 u459 u460 u461 u462 u463 u464 u465 u466 u467 u468 u469 u470 u471 u472 u473 u474 u475 : Value), n' ≤ cap' → lnr.length = n' → Seg wr lb lo' lnr → 34 ∉ lnr → FS g bE R flds c0 w0 v7 nl lb P c' acc.flatten (ixsOf acc) ps wr → acc ++ splF f lnr = flds → n' < f → ((acc = [] ∧ ps = []) ∨ ∃ col t, ps = .int .i64 nl :: .int .i64 col :: t) → acc.flatten.length + acc.length + n' ≤ 2000000 → ps.length = 2 * acc.length →
      Code.rounds Tryf.prog fldBody Q f ⟨#[.pointer (some ⟨g + 4, 0, none⟩), k1, k2, k3, k4, k5, .slice (some ⟨lb, lo', none⟩) n' cap', v7, .nilIface, .int .i64 1, k10, .pointer (some ⟨P, 0, none⟩), u12, u13, u14, u15, u16, u17, u18, u19, k20, k21, k22, k23, k24, k25, k26, k27, k28, k29, k30, k31, k32, k33, k34, k35, k36, k37, k38, k39, k40, k41, k42, k43, k44, k45, k46, k47, k48, k49, k50, k51, k52, k53, k54, k55, k56, k57, k58, k59, k60, k61, k62, k63, k64, k65, k66, k67, k68, k69, k70, k71, k72, k73, k74, k75, k76, k77, k78, k79, k80, k81, k82, k83, k84, k85, k86, k87, k88, k89, k90, k91, k92, k93, k94, k95, k96, k97, k98, k99, k100, k101, k102, k103, k104, k105, k106, k107, k108, k109, k110, k111, k112, k113, k114, k115, k116, k117, k118, k119, k120, k121, k122, k123, k124, k125, k126, k127, k128, u129, u130, u131, u132, u133, u134, u135, u136, u137, u138, u139, u140, u141, u142, u143, u144, u145, u146, u147, u148, u149, u150, u151, u152, u153, u154, u155, u156, u157, u158, u159, u160, u161, u162, u163, u164, u165, u166, u167, u168, u169, u170, u171, u172, u173, u174, u175, u176, u177, u178, u179, u180, u181, u182, u183, u184, u185, u186, u187, u188, u189, u190, u191, u192, u193, u194, u195, u196, u197, u198, u199, u200, u201, u202, u203, u204, u205, u206, u207, u208, u209, u210, u211, u212, u213, u214, u215, u216, u217, u218, u219, u220, u221, u222, u223, u224, u225, u226, u227, u228, u229, u230, u231, u232, u233, u234, u235, u236, u237, u238, u239, u240, u241, u242, u243, u244, u245, u246, u247, u248, u249, u250, u251, u252, u253, u254, u255, u256, u257, u258, u259, u260, u261, u262, u263, u264, u265, u266, u267, u268, u269, u270, u271, u272, u273, u274, u275, u276, u277, u278, u279, u280, u281, u282, u283, u284, u285, u286, u287, u288, u289, u290, u291, u292, u293, u294, u295, u296, u297, u298, u299, u300, u301, u302, u303, u304, u305, u306, u307, u308, u309, u310, u311, u312, u313, u314, u315, u316, u317, u318, u319, u320, u321, u322, u323, u324, u325, u326, u327, u328, u329, u330, u331, u332, u333, u334, u335, u336, u337, u338, u339, u340, u341, u342, u343, u344, u345, u346, u347, u348, u349, u350, u351, u352, u353, u354, u355, u356, u357, u358, u359, u360, u361, u362, u363, u364, u365, u366, u367, u368, u369, u370, u371, u372, u373, u374, u375, u376, u377, u378, u379, u380, u381, u382, u383, u384, u385, u386, u387, u388, u389, u390, u391, u392, u393, u394, u395, u396, u397, u398, u399, u400, u401, u402, u403, u404, u405, u406, u407, u408, u409, u410, u411, u412, u413, u414, u415, u416, u417, u418, u419, u420, u421, u422, u423, u424, u425, u426, u427, u428, u429, u430, u431, u432, u433, u434, u435, u436, u437, u438, u439, u440, u441, u442, u443, u444, u445, u446, u447, u448, u449, u450, u451, u452, u453, u454, u455, u456, u457, u458, u459, u460, u461, u462, u463, u464, u465, u466, u467, u468, u469, u470, u471, u472, u473, u474, u475, k476, k477, k478, k479, k480, k481, k482, k483, k484, k485, k486, k487, k488, k489, k490, k491, k492, k493, k494, k495, k496, k497, k498, k499, k500, k501, k502, k503, k504, k505, k506, k507, k508, k509, k510, k511, k512, k513, k514, k515, k516, k517, k518, k519, k520, k521, k522, k523, k524, k525, k526, k527, k528, k529, k530, k531, k532, k533, k534, k535, k536, k537, k538, k539, k540, k541, k542, k543, k544, k545, k546, k547, k548, k549, k550, k551, k552, k553, k554, k555, k556, k557, k558, k559], []⟩ wr := by
  intro f
  induction f with
  | zero => intro acc lnr lo' n' cap' c' ps wr u12 u13 u14 u15 u16 u17 u18 u19 u129 u130 u131 u132 u133 u134 u135 u136 u137 u138 u139 u140 u141 u142 u143 u144 u145 u146 u147 u148 u149 u150 u151 u152 u153 u154 u155 u156 u157 u158 u159 u160 u161 u162 u163 u164 u165 u166 u167 u168 u169 u170 u171 u172 u173 u174 u175 u176 u177 u178 u179 u180 u181 u182 u183 u184 u185 u186 u187 u188 u189 u190 u191 u192 u193 u194 u195 u196 u197 u198 u199 u200 u201 u202 u203 u204 u205 u206 u207 u208 u209 u210 u211 u212 u213 u214 u215 u216 u217 u218 u219 u220 u221 u222 u223 u224 u225 u226 u227 u228 u229 u230 u231 u232 u233 u234 u235 u236 u237 u238 u239 u240 u241 u242 u243 u244 u245 u246 u247 u248 u249 u250 u251 u252 u253 u254 u255 u256 u257 u258 u259 u260 u261 u262 u263 u264 u265 u266 u267 u268 u269 u270 u271 u272 u273 u274 u275 u276 u277 u278 u279 u280 u281 u282 u283 u284 u285 u286 u287 u288 u289 u290 u291 u292 u293 u294 u295 u296 u297 u298 u299 u300 u301 u302 u303 u304 u305 u306 u307 u308 u309 u310 u311 u312 u313 u314 u315 u316 u317 u318 u319 u320 u321 u322 u323 u324 u325 u326 u327 u328 u329 u330 u331 u332 u333 u334 u335 u336 u337 u338 u339 u340 u341 u342 u343 u344 u345 u346 u347 u348 u349 u350 u351 u352 u353 u354 u355 u356 u357 u358 u359 u360 u361 u362 u363 u364 u365 u366 u367 u368 u369 u370 u371 u372 u373 u374 u375 u376 u377 u378 u379 u380 u381 u382 u383 u384 u385 u386 u387 u388 u389 u390 u391 u392 u393 u394 u395 u396 u397 u398 u399 u400 u401 u402 u403 u404 u405 u406 u407 u408 u409 u410 u411 u412 u413 u414 u415 u416 u417 u418 u419 u420 u421 u422 u423 u424 u425 u426 u427 u428 u429 u430 u431 u432 u433 u434 u435 u436 u437 u438 u439 u440 u441 u442 u443 u444 u445 u446 u447 u448 u449 u450 u451 u452 u453 u454 u455 u456 u457 u458 u459 u460 u461 u462 u463 u464 u465 u466 u467 u468 u469 u470 u471 u472 u473 u474 u475 h1 h2 h3 h4 h5 h6 h7; omega
  | succ f ih =>
    intro acc lnr lo' n' cap' c' ps wr u12 u13 u14 u15 u16 u17 u18 u19 u129 u130 u131 u132 u133 u134 u135 u136 u137 u138 u139 u140 u141 u142 u143 u144 u145 u146 u147 u148 u149 u150 u151 u152 u153 u154 u155 u156 u157 u158 u159 u160 u161 u162 u163 u164 u165 u166 u167 u168 u169 u170 u171 u172 u173 u174 u175 u176 u177 u178 u179 u180 u181 u182 u183 u184 u185 u186 u187 u188 u189 u190 u191 u192 u193 u194 u195 u196 u197 u198 u199 u200 u201 u202 u203 u204 u205 u206 u207 u208 u209 u210 u211 u212 u213 u214 u215 u216 u217 u218 u219 u220 u221 u222 u223 u224 u225 u226 u227 u228 u229 u230 u231 u232 u233 u234 u235 u236 u237 u238 u239 u240 u241 u242 u243 u244 u245 u246 u247 u248 u249 u250 u251 u252 u253 u254 u255 u256 u257 u258 u259 u260 u261 u262 u263 u264 u265 u266 u267 u268 u269 u270 u271 u272 u273 u274 u275 u276 u277 u278 u279 u280 u281 u282 u283 u284 u285 u286 u287 u288 u289 u290 u291 u292 u293 u294 u295 u296 u297 u298 u299 u300 u301 u302 u303 u304 u305 u306 u307 u308 u309 u310 u311 u312 u313 u314 u315 u316 u317 u318 u319 u320 u321 u322 u323 u324 u325 u326 u327 u328 u329 u330 u331 u332 u333 u334 u335 u336 u337 u338 u339 u340 u341 u342 u343 u344 u345 u346 u347 u348 u349 u350 u351 u352 u353 u354 u355 u356 u357 u358 u359 u360 u361 u362 u363 u364 u365 u366 u367 u368 u369 u370 u371 u372 u373 u374 u375 u376 u377 u378 u379 u380 u381 u382 u383 u384 u385 u386 u387 u388 u389 u390 u391 u392 u393 u394 u395 u396 u397 u398 u399 u400 u401 u402 u403 u404 u405 u406 u407 u408 u409 u410 u411 u412 u413 u414 u415 u416 u417 u418 u419 u420 u421 u422 u423 u424 u425 u426 u427 u428 u429 u430 u431 u432 u433 u434 u435 u436 u437 u438 u439 u440 u441 u442 u443 u444 u445 u446 u447 u448 u449 u450 u451 u452 u453 u454 u455 u456 u457 u458 u459 u460 u461 u462 u463 u464 u465 u466 u467 u468 u469 u470 u471 u472 u473 u474 u475 hnc' hln' hseg' h34' hfs hspl hnf hps hsum hpl
    rw [rounds_succ]
    have hn2' : n' ≤ 2000000 := by omega
    have IH := hid_of ih
    have HQ := hid_of hQ
    have HFS := hid_of hfs
    have HLN := hid_of hln'
    have HSEG := hid_of hseg'
    have H34 := hid_of h34'
    have HSPL := hid_of hspl
    have HPS := hid_of hps
    have HSUM := hid_of hsum
    have HPL := hid_of hpl
    have d4 := hfs.rows.csv.cell (i := 4) rfl
    have d3 := hfs.rows.csv.cell (i := 3) rfl
    have d0 := hfs.rows.csv.cell (i := 0) rfl
    clear ih hQ hfs hln' hseg' h34' hspl hps hsum hpl
    conv => arg 2; whnf
    go_upto_region 27 with fail
    go_cut [161] from 153 to 160 (fun v161 wr' => v161 = .bool true ∧ wr' = wr)
    case first =>
      by_cases hn0 : n' = 0
      · subst hn0
        go_wp2_with fail
        go_meet
        exact ⟨rfl, rfl⟩
      · have hl0 : 0 < lnr.length := by have := HLN.out; omega
        have hb := HSEG.out 0 hl0
        have hne : ((lnr[0].toNat : Int) == 34) = false := by
          rw [beq_eq_false_iff_ne]
          intro h'
          apply H34.out
          have : lnr[0] = 34 := UInt8.toNat_inj.1 (by have : (34 : UInt8).toNat = 34 := rfl; omega)
          rw [← this]; exact List.getElem_mem hl0
        have hnz : ((n' : Int) == 0) = false := by rw [beq_eq_false_iff_ne]; omega
        have hnp : (0 : Int) < (n' : Int) := by omega
        rw [Nat.add_zero] at hb
        go_wp2_with fail
        go_meet
        exact ⟨by simp [bne, hne], rfl⟩
    case rest =>
    obtain ⟨rfl, hw⟩ := hcut
    have hw' := hw.symm
    subst hw'
    clear hw
    obtain ⟨x, hx⟩ : ∃ x, Lib.indexByte lnr 44 = x := ⟨_, rfl⟩
    have cX := indexRune_calls wr lb lo' n' cap' lnr HLN.out HSEG.out
    rw [hx] at cX
    obtain ⟨m, hmm⟩ : ∃ m, (if 44 ∈ lnr then x.toNat else n' - nlOf lnr) = m := ⟨_, rfl⟩
    have HX : Hid ((x = -1 ∧ 44 ∉ lnr ∧ m = n' - nlOf lnr) ∨ ∃ j : Nat, x = j ∧ j < n' ∧ m = j ∧ 44 ∈ lnr) := by
      rcases indexByte_cases lnr 44 with ⟨e, hno⟩ | ⟨j, e, hj, hj2, hj3⟩
      · rw [if_neg hno] at hmm
        exact .inl ⟨by rw [← hx, e], hno, hmm.symm⟩
      · have hin : 44 ∈ lnr := by rw [← hj2]; exact List.getElem_mem hj
        rw [if_pos hin] at hmm
        have hxj : x = (j : Int) := by rw [← hx, e]
        exact .inr ⟨j, hxj, by have := HLN.out; omega, by omega, hin⟩
    have hmn : m ≤ n' := by rcases HX.out with ⟨-, -, h⟩ | ⟨j, -, h1, h2, -⟩ <;> omega
    obtain ⟨fld, hfld⟩ : ∃ fld, lnr.take m = fld := ⟨_, rfl⟩
    have hm : fld.length = m := by rw [← hfld, List.length_take]; have := HLN.out; omega
    have hsegf : Seg wr lb lo' fld := by rw [← hfld]; exact HSEG.out.take m
    have h34f : Lib.indexByte fld 34 = -1 := by
      rcases indexByte_cases fld 34 with ⟨e, -⟩ | ⟨j, e, hj, hj2, -⟩
      · exact e
      · exfalso
        apply H34.out
        have : 34 ∈ fld := by rw [← hj2]; exact List.getElem_mem hj
        rw [← hfld] at this
        exact List.mem_of_mem_take this
    have cQ := index_calls wr lb lo' m cap' fld hm hsegf 34
    rw [show ((34 : Int).toNat).toUInt8 = 34 by rfl, h34f] at cQ
    have HF := hid_of hfld
    have HM := hid_of hm
    have HXX := hid_of hx
    have HSF := hid_of hsegf
    clear hx hmm hfld hm h34f hsegf
    go_upto_if 170 with (go_at_call 58; go_fit cX; rintro e wb ⟨rfl, rfl⟩; dsimp only)
    go_cut [14] from 171 to 180 (fun v14 wr' => v14 = .slice (some ⟨lb, lo', none⟩) m cap' ∧ wr' = wb)
    case first =>
      rcases HX.out with ⟨rfl, h44, hm'⟩ | ⟨j, rfl, hj, hm', h44⟩
      · have cN := nl_calls wb lb lo' n' cap' lnr HLN.out (by omega) HSEG.out
        have hle := nlOf_le lnr
        rw [HLN.out] at hle
        have i0 : (0 : Int) ≤ (n' : Int) - (nlOf lnr : Int) := by omega
        have i1 : (n' : Int) - (nlOf lnr : Int) ≤ (cap' : Int) := by omega
        have i2 : ((n' : Int) - (nlOf lnr : Int)).toNat = m := by omega
        clear h44 hm'
        go_wp2_with (go_at_call 53; go_fit cN; rintro e wd ⟨rfl, rfl⟩; dsimp only)
        go_meet
        exact ⟨by simp [i2], rfl⟩
      · have j0 : (0 : Int) ≤ (j : Int) := by omega
        have j1 : (j : Int) ≤ (cap' : Int) := by omega
        subst hm'
        clear h44
        go_wp2_with fail
        go_meet
        exact ⟨rfl, rfl⟩
    case rest =>
    obtain ⟨rfl, hw⟩ := hcut
    have hw' := hw.symm
    subst hw'
    clear hw
    go_upto_region 38 with (go_at_call 30; go_fit cQ; rintro e wd ⟨rfl, rfl⟩; dsimp only)
    have hszd : g + 6 ≤ wd.heap.size := HFS.out.rows.size
    have hL5 : acc.flatten.length + m ≤ 1000000000 := by have := HSUM.out; omega
    obtain ⟨v5, w5, hrun5, hown5, hgrew5⟩ := append_bytes (g + 6) wd 36 c'.rbuf acc.flatten.length (bcells acc.flatten) HFS.out.rows.rbuf lb lo' m cap' fld HM.out HSF.out hL5 hszd
    have hF5 := HFS.out.appRbuf (l := fld) (wX := wd) (Only.refl _ _) hgrew5 (by rw [HM.out]; exact hown5)
    have hW5 : Only (fun k => c'.rbuf.ownBlock = some k) wd w5 := hgrew5.only (Only.refl _ _) (fun k hk => .inl hk)
    have hcsv5 : SAt (g + 4) 76 (csvC g c') w5 := hW5.sat HFS.out.rows.csv (fun hk => by have := (HFS.out.rows.rbuf.lt _ hk).1; omega)
    have d11 := HFS.out.rows.csv.cell (i := 11) rfl
    have e11 := hcsv5.cell (i := 11) rfl
    have f11 := hcsv5.frozen 11
    obtain ⟨L, hL⟩ : ∃ L, acc.flatten.length + m = L := ⟨_, rfl⟩
    have hsh5 : (v5 = .slice none 0 0 ∧ L = 0) ∨ ∃ b cp, v5 = .slice (some ⟨b, 0, none⟩) L cp := by
      rw [← hL]
      rcases hown5.2 with ⟨h1, h2⟩ | ⟨b, cp, cur, h1, -⟩
      · exact .inl ⟨h1, h2⟩
      · exact .inr ⟨b, cp, h1⟩
    have HL := hid_of hL
    clear hL hL5
    have HSH5 := hid_of hsh5
    have HF5 := hid_of hF5
    clear hown5 hgrew5 hW5 hcsv5 hsh5 hF5
    go_cut [] from 204 to 212 (fun wr' => wr' = w5.setCell ⟨g + 4, 11, none⟩ v5)
    case first =>
      rcases HSH5.out with ⟨h1, -⟩ | ⟨b, cp, h1⟩
      · subst h1
        go_wp2_with (at_builtin; refine wpl_append_run rfl _ _ 36 rfl _ _ rfl rfl _ w5 hrun5 ?_)
        go_meet
        rfl
      · subst h1
        go_wp2_with (at_builtin; refine wpl_append_run rfl _ _ 36 rfl _ _ rfl rfl _ w5 hrun5 ?_)
        go_meet
        rfl
    case rest =>
    obtain ⟨w6, hw6⟩ : ∃ w6, w5.setCell ⟨g + 4, 11, none⟩ v5 = w6 := ⟨_, rfl⟩
    rw [hw6] at HF5 hcut
    have hcut' := hcut.symm
    subst hcut'
    clear hcut hw6 hrun5 d11 e11 f11
    have hFS6 := HF5.out.1
    have hO6 := HF5.out.2
    have hseg6 : Seg w6 lb lo' lnr := HFS.out.seg HSEG.out hO6 (fun k hk hk' => by
      rcases hk' with hk' | hk'
      · rcases hk with hk | hk
        · omega
        · obtain ⟨n9, x9, h9⟩ := HFS.out.rows.raw
          have := (h9.lt k hk).1
          omega
      · rcases hk with hk | hk
        · have := (HFS.out.rows.rbuf.lt k hk').1; omega
        · exact HFS.out.rows.apart k hk hk')
    have hX6 : Only (fun _ => False) w6 ((w6.alloc (.cells #[.int .i64 (L : Int)] 3)).drew) := ((Only.refl _ _).alloc _).drew
    have hidx6 := ownsRow_only hFS6.rows.idx hX6 (fun _ _ h => h)
    have hcell6 : ((w6.alloc (.cells #[.int .i64 (L : Int)] 3)).drew).cell? ⟨w6.heap.size, 0, none⟩ = some (.int .i64 (L : Int)) := (SAt.new w6 [.int .i64 (L : Int)] 3).cell rfl
    have hixl : (ixsOf acc).length + 1 ≤ 1000000000 := by rw [ixsOf_length]; have := HSUM.out; omega
    obtain ⟨v7', w7, hrun7, hown7, hgrew7⟩ := append_int (g + 6) ((w6.alloc (.cells #[.int .i64 (L : Int)] 3)).drew) 26 c'.idx (ixsOf acc).length (ixsOf acc) hidx6 w6.heap.size 1 (L : Int) hcell6 hixl (Nat.le_trans hFS6.rows.size hX6.size)
    obtain ⟨b7, cp7, rfl, -, -⟩ := hown7.form (by omega)
    have hF7 := hFS6.appIdx hX6 hgrew7 hown7
    have hW7 : Only (fun k => c'.idx.ownBlock = some k) w6 w7 := hgrew7.only (hX6.mono (fun k _ h => h.elim)) (fun k hk => .inl hk)
    have hcsv7 : SAt (g + 4) 76 (csvC g { c' with rbuf := v5 }) w7 := hW7.sat hFS6.rows.csv (fun hk => by have := (hFS6.rows.idx.lt _ hk).1; omega)
    have d11 := hFS6.rows.csv.cell (i := 11) rfl
    have d12 := hFS6.rows.csv.cell (i := 12) rfl
    have e12 := hcsv7.cell (i := 12) rfl
    have f12 := hcsv7.frozen 12
    simp only [] at d11 d12 e12
    have HF7 := hid_of hF7
    have HFS6 := hid_of hFS6
    have HO6 := hid_of hO6
    have HSEG6 := hid_of hseg6
    have hnew : ∀ o : Obj, (w6.alloc o).cell? ⟨g + 4, 12, none⟩ = some c'.idx ∧ (w6.alloc o).cell? ⟨g + 4, 11, none⟩ = some v5 := fun o => by
      have := (hFS6.rows.csv.alloc o)
      exact ⟨this.cell rfl, this.cell rfl⟩
    have hnew1 := fun o => (hnew o).1
    have hnew2 := fun o => (hnew o).2
    clear hF7 hW7 hcsv7 hown7 hgrew7 hX6 hidx6 hcell6 hFS6 hO6 hseg6 hnew
    go_upto_region 39 with fail
    go_cut [] from 213 to 226 (fun wr' => wr' = w7.setCell ⟨g + 4, 12, none⟩ (.slice (some ⟨b7, 0, none⟩) ((ixsOf acc).length + 1) cp7))
    case first =>
      rcases HSH5.out with ⟨h1, h2⟩ | ⟨b, cp, h1⟩
      · rw [h1] at d11 hnew2
        rw [h2] at hrun7
        refine wp_region_noPanic ?_
        go_region_law (refine step_append_run (by rfl) _ _ 26 (by rfl) _ _ (by rfl) (by rfl) _ w7 hrun7 ?_)
        all_goals (refine NoPanic.normal ?_)
        all_goals go_wp2_with fail
        all_goals go_meet
        all_goals rfl
      · rw [h1] at d11 hnew2
        refine wp_region_noPanic ?_
        go_region_law (refine step_append_run (by rfl) _ _ 26 (by rfl) _ _ (by rfl) (by rfl) _ w7 hrun7 ?_)
        all_goals (refine NoPanic.normal ?_)
        all_goals go_wp2_with fail
        all_goals go_meet
        all_goals rfl
    case rest =>
    obtain ⟨w8, hw8⟩ : ∃ w8, w7.setCell ⟨g + 4, 12, none⟩ (.slice (some ⟨b7, 0, none⟩) ((ixsOf acc).length + 1) cp7) = w8 := ⟨_, rfl⟩
    rw [hw8] at HF7 hcut
    have hcut' := hcut.symm
    subst hcut'
    clear hcut hw8 hrun7 d11 d12 e12 f12 hnew1 hnew2 HSH5 HF5
    have hFS8 := HF7.out.1
    have hO8 := HF7.out.2
    obtain ⟨col, hP8⟩ := hFS8.p
    obtain ⟨np, hpos8⟩ := hFS8.rows.pos
    have hseg8 : Seg w8 lb lo' lnr := HFS6.out.seg HSEG6.out hO8 (fun k hk hk' => by
      obtain ⟨n9, x9, h9⟩ := HFS6.out.rows.raw
      rcases hk' with hk' | hk'
      · rcases hk with hk | hk
        · omega
        · have := (h9.lt k hk).1
          omega
      · rcases hk with hk | hk
        · have := (HFS6.out.rows.idx.lt k hk').1; omega
        · exact apart_of h9 HFS6.out.rows.idx (by decide) k hk hk')
    have hX8 : Only (fun _ => False) w8 ((w8.alloc (.cells #[.int .i64 (nl : Int), .int .i64 col] 85)).drew) := ((Only.refl _ _).alloc _).drew
    have hpos9 := ownsRow_only hpos8 hX8 (fun _ _ h => h)
    have hc80 : ((w8.alloc (.cells #[.int .i64 (nl : Int), .int .i64 col] 85)).drew).cell? ⟨w8.heap.size, 0, none⟩ = some (.int .i64 (nl : Int)) := (SAt.new w8 [.int .i64 (nl : Int), .int .i64 col] 85).cell rfl
    have hc81 : ((w8.alloc (.cells #[.int .i64 (nl : Int), .int .i64 col] 85)).drew).cell? ⟨w8.heap.size, 1, none⟩ = some (.int .i64 col) := (SAt.new w8 [.int .i64 (nl : Int), .int .i64 col] 85).cell rfl
    have hnp : np + 1 ≤ 1000000000 := by
      have h1 := hpos8.1
      have h2 := HPL.out
      have h3 := HSUM.out
      omega
    obtain ⟨v9', w9, hrun9, hown9, hgrew9⟩ := append_pos (g + 6) ((w8.alloc (.cells #[.int .i64 (nl : Int), .int .i64 col] 85)).drew) 74 c'.pos np ps hpos9 w8.heap.size 1 (nl : Int) col hc80 hc81 hnp (Nat.le_trans hFS8.rows.size hX8.size)
    obtain ⟨b9, cp9, rfl, -, -⟩ := hown9.form (by omega)
    have hF9 := hFS8.appPos hX8 hgrew9 hown9
    have hW9 : Only (fun k => c'.pos.ownBlock = some k) w8 w9 := hgrew9.only (hX8.mono (fun k _ h => h.elim)) (fun k hk => .inl hk)
    have hcsv9 := hW9.sat hFS8.rows.csv (fun hk => by have := (hpos8.lt _ hk).1; omega)
    have d13 := hFS8.rows.csv.cell (i := 13) rfl
    have e13 := hcsv9.cell (i := 13) rfl
    have f13 := hcsv9.frozen 13
    have p0 := hP8.cell (i := 0) rfl
    have p1 := hP8.cell (i := 1) rfl
    simp only [] at d13 e13
    have hnew1 : ∀ o : Obj, (w8.alloc o).cell? ⟨g + 4, 13, none⟩ = some c'.pos := fun o => (hFS8.rows.csv.alloc o).cell rfl
    have hnew2 : ∀ o : Obj, (w8.alloc o).cell? ⟨P, 0, none⟩ = some (.int .i64 (nl : Int)) := fun o => (hP8.alloc o).cell rfl
    have hnew3 : ∀ o : Obj, (w8.alloc o).cell? ⟨P, 1, none⟩ = some (.int .i64 col) := fun o => (hP8.alloc o).cell rfl
    have HF9 := hid_of hF9
    have HFS8 := hid_of hFS8
    have HSEG8 := hid_of hseg8
    clear hF9 hW9 hcsv9 hown9 hgrew9 hX8 hpos8 hpos9 hc80 hc81 hFS8 hO8 hseg8 hP8
    go_upto_region 40 with fail
    go_cut [] from 227 to 236 (fun wr' => wr' = w9.setCell ⟨g + 4, 13, none⟩ (.slice (some ⟨b9, 0, none⟩) (np + 1) cp9))
    case first =>
      refine wp_region_noPanic ?_
      go_region_law (refine step_append_run (by rfl) _ _ 74 (by rfl) _ _ (by rfl) (by rfl) _ w9 hrun9 ?_)
      all_goals (refine NoPanic.normal ?_)
      all_goals go_wp2_with fail
      all_goals go_meet
      all_goals rfl
    case rest =>
    obtain ⟨w10, hw10⟩ : ∃ w10, w9.setCell ⟨g + 4, 13, none⟩ (.slice (some ⟨b9, 0, none⟩) (np + 1) cp9) = w10 := ⟨_, rfl⟩
    rw [hw10] at HF9 hcut
    have hcut' := hcut.symm
    subst hcut'
    clear hcut hw10 hrun9 d13 e13 f13 hnew1 hnew2 hnew3 p0 p1
    have hFS10 := HF9.out.1
    have hO10 := HF9.out.2
    have hseg10 : Seg w10 lb lo' lnr := HFS8.out.seg HSEG8.out hO10 (fun k hk hk' => by
      obtain ⟨n9, x9, h9⟩ := HFS8.out.rows.raw
      obtain ⟨n8, h8⟩ := HFS8.out.rows.pos
      rcases hk' with hk' | hk'
      · rcases hk with hk | hk
        · omega
        · have := (h9.lt k hk).1
          omega
      · rcases hk with hk | hk
        · have := (h8.lt k hk').1; omega
        · exact apart_of h9 h8 (by decide) k hk hk')
    have hfl : acc.flatten ++ fld = (acc ++ [fld]).flatten := by simp
    have hix : ixsOf acc ++ [Value.int .i64 (L : Int)] = ixsOf (acc ++ [fld]) := by
      rw [ixsOf_snoc, ← hfl, List.length_append, HM.out, HL.out]
    rw [hfl, hix] at hFS10
    have hps10 : ∃ col' t, ps ++ [Value.int .i64 (nl : Int), .int .i64 col] = .int .i64 nl :: .int .i64 col' :: t := by
      rcases HPS.out with ⟨-, h⟩ | ⟨col', t, h⟩
      · exact ⟨col, [], by rw [h]; rfl⟩
      · exact ⟨col', t ++ [.int .i64 (nl : Int), .int .i64 col], by rw [h]; rfl⟩
    obtain ⟨col10, hP10⟩ := hFS10.p
    have q1 := hP10.cell (i := 1) rfl
    have g1 := hP10.frozen 1
    have HFS10 := hid_of hFS10
    have HSEG10 := hid_of hseg10
    have HPS10 := hid_of hps10
    clear hFS10 hO10 hseg10 hfl hix hps10 hP10
    rcases HX.out with ⟨rfl, h44, hm'⟩ | ⟨j, rfl, hj, hm', h44⟩
    · have hsp : Hid (acc ++ [fld] = flds) := by
        show _ = _
        rw [← HSPL.out]
        unfold splF
        rw [if_neg h44, ← HF.out, hm']
        congr 2
        unfold nlOf
        have hln := HLN.out
        by_cases h10 : lnr.getLast? = some 10
        · rw [if_pos h10, if_pos h10, List.dropLast_eq_take, hln]
        · rw [if_neg h10, if_neg h10, List.take_of_length_le (by omega)]
      clear h44 hm'
      go_wp2_with fail
      have h10' := HFS10.out
      rw [hsp.out] at h10'
      exact HQ.out _ _ _ _ _ _ _ _ _ _ _ _ _ _ _ _ _ _ _ _ _ _ _ _ _ _ _ _ _ _ _ _ _ _ _ _ _ _ _ _ _ _ _ _ _ _ _ _ _ _ _ _ _ _ _ _ _ _ _ _ _ _ _ _ _ _ _ _ _ _ _ _ _ _ _ _ _ _ _ _ _ _ _ _ _ _ _ _ _ _ _ _ _ _ _ _ _ _ _ _ _ _ _ _ _ _ _ _ _ _ _ _ _ _ _ _ _ _ _ _ _ _ _ _ _ _ _ _ _ _ _ _ _ _ _ _ _ _ _ _ _ _ _ _ _ _ _ _ _ _ _ _ _ _ _ _ _ _ _ _ _ _ _ _ _ _ _ _ _ _ _ _ _ _ _ _ _ _ _ _ _ _ _ _ _ _ _ _ _ _ _ _ _ _ _ _ _ _ _ _ _ _ _ _ _ _ _ _ _ _ _ _ _ _ _ _ _ _ _ _ _ _ _ _ _ _ _ _ _ _ _ _ _ _ _ _ _ _ _ _ _ _ _ _ _ _ _ _ _ _ _ _ _ _ _ _ _ _ _ _ _ _ _ _ _ _ _ _ _ _ _ _ _ _ _ _ _ _ _ _ _ _ _ _ _ _ _ _ _ _ _ _ _ _ _ _ _ _ _ _ _ _ _ _ _ _ _ _ _ _ _ _ _ _ _ _ _ _ _ _ _ _ _ _ _ _ _ _ _ _ _ _ _ _ _ _ _ _ _ _ _ _ _ _ _ _ _ _ _ _ _ _ _ _ _ _ _ _ _ h10' HPS10.out
    · have hsp : Hid (acc ++ [fld] ++ splF f (lnr.drop (j + 1)) = flds) := by
        show _ = _
        rw [← HSPL.out, List.append_assoc]
        conv => rhs; unfold splF
        have hxx := HXX.out
        rw [if_pos h44, hxx, Int.toNat_natCast, ← HF.out, hm']
        rfl
      obtain ⟨o2, hqa, hs2⟩ : ∃ o2, (if cap' = j + 1 then some (⟨lb, lo', none⟩ : Addr) else some ⟨lb, lo' + (j + 1), none⟩) = some ⟨lb, o2, none⟩ ∧ Hid (Seg w10 lb o2 (lnr.drop (j + 1))) := by
        by_cases h4 : cap' = j + 1
        · refine ⟨lo', if_pos h4, ?_⟩
          have : lnr.drop (j + 1) = [] := List.drop_eq_nil_of_le (by have := HLN.out; omega)
          show Seg _ _ _ _
          rw [this]
          intro i hi; simp at hi
        · exact ⟨lo' + (j + 1), if_neg h4, HSEG10.out.drop (j + 1)⟩
      have j0 : (0 : Int) ≤ (j : Int) + 1 := by omega
      have j1 : (j : Int) + 1 ≤ (n' : Int) := by omega
      have j2 : ((j : Int) + 1).toNat = j + 1 := by omega
      have j3 : IntKind.i64.wrap ((j : Int) + 1) = (j : Int) + 1 := IntWalk.i64_in _ (by omega)
      have hnj : (n' : Int) ≤ (cap' : Int) := by omega
      have hlen2 : (lnr.drop (j + 1)).length = n' - (j + 1) := by rw [List.length_drop, HLN.out]
      have hfl2 : fld.length = j := by rw [HM.out, hm']
      clear h44
      go_wp2_with fail
      have hcol := HFS10.out.setCol (wrap64 (col10 + ((j : Int) + 1)))
      have hseg11 := HFS10.out.seg hs2.out hcol.2 (fun k hk hk' => by
        subst hk'
        obtain ⟨n9, x9, h9⟩ := HFS10.out.rows.raw
        obtain ⟨col9, hp9⟩ := HFS10.out.p
        have := HFS10.out.pg
        rcases hk with hk | hk
        · omega
        · exact sat_apart hp9 h9 (by decide) hk)
      refine IH.out (acc ++ [fld]) (lnr.drop (j + 1)) o2 (n' - (j + 1)) (cap' - (j + 1)) _ _ _ _ _ _ _ _ _ _ _ _ _ _ _ _ _ _ _ _ _ _ _ _ _ _ _ _ _ _ _ _ _ _ _ _ _ _ _ _ _ _ _ _ _ _ _ _ _ _ _ _ _ _ _ _ _ _ _ _ _ _ _ _ _ _ _ _ _ _ _ _ _ _ _ _ _ _ _ _ _ _ _ _ _ _ _ _ _ _ _ _ _ _ _ _ _ _ _ _ _ _ _ _ _ _ _ _ _ _ _ _ _ _ _ _ _ _ _ _ _ _ _ _ _ _ _ _ _ _ _ _ _ _ _ _ _ _ _ _ _ _ _ _ _ _ _ _ _ _ _ _ _ _ _ _ _ _ _ _ _ _ _ _ _ _ _ _ _ _ _ _ _ _ _ _ _ _ _ _ _ _ _ _ _ _ _ _ _ _ _ _ _ _ _ _ _ _ _ _ _ _ _ _ _ _ _ _ _ _ _ _ _ _ _ _ _ _ _ _ _ _ _ _ _ _ _ _ _ _ _ _ _ _ _ _ _ _ _ _ _ _ _ _ _ _ _ _ _ _ _ _ _ _ _ _ _ _ _ _ _ _ _ _ _ _ _ _ _ _ _ _ _ _ _ _ _ _ _ _ _ _ _ _ _ _ _ _ _ _ _ _ _ _ _ _ _ _ _ _ _ _ _ _ _ _ _ _ _ _ _ _ _ _ _ _ _ _ _ _ _ _ _ _ _ _ _ _ _ _ _ _ _ _ _ _ _ _ _ _ _ _ _ _ _ _ _ _ _ _ _ _ _ _ _ _ _ _ (by omega) hlen2 hseg11 (fun h => H34.out (List.mem_of_mem_drop h)) hcol.1 hsp.out (by omega) (.inr HPS10.out) ?_ ?_
      · have h1 := HSUM.out
        have h2 : (acc ++ [fld]).flatten.length = acc.flatten.length + fld.length := by simp
        rw [h2, List.length_append, List.length_singleton, hfl2]
        omega
      · have h1 := HPL.out
        rw [List.length_append, List.length_append, h1]
        simp
        omega
end Go.Proofs.Qxb6614395aFmt
