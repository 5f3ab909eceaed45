import Derived.Test.Qxb6614395aFmtQ5
import Derived.Test.Qxb6614395aFmtR37
set_option linter.unusedSimpArgs false
set_option linter.unusedVariables false
namespace Go.Proofs.Qxb6614395aFmt
open Go Go.RowKit Go.Deep Go.Extern.Stop Go.Stop Go.Extern
attribute [local go_sem] str_size str_get str_extract str_toList str_append
set_option maxHeartbeats 6400000 in
set_option maxRecDepth 1000000 in
theorem fU2 {k1 k2 k3 k4 k5 k20 k21 k22 k23 k24 k25 k26 k27 k28 k29 k30 k31 k32 k33 k34 k35 k36 k37 k38 k39 k40 k41 k42 k43 k44 k45 k46 k47 k48 k49 k50 k51 k52 k53 k54 k55 k56 k57 k58 k59 k60 k61 k62 k63 k64 k65 k66 k67 k68 k69 k70 k71 k72 k73 k74 k75 k76 k77 k78 k79 k80 k81 k82 k83 k84 k85 k86 k87 k88 k89 k90 k91 k92 k93 k94 k95 k96 k97 k98 k99 k100 k101 k102 k103 k104 k105 k106 k107 k108 k109 k110 k111 k112 k113 k114 k115 k116 k117 k118 k119 k120 k121 k122 k123 k124 k125 k126 k127 k128 k476 k477 k478 k479 k480 k481 k482 k483 k484 k485 k486 k487 k488 k489 k490 k491 k492 k493 k494 k495 k496 k497 k498 k499 k500 k501 k502 k503 k504 k505 k506 k507 k508 k509 k510 k511 k512 k513 k514 k515 k516 k517 k518 k519 k520 k521 k522 k523 k524 k525 k526 k527 k528 k529 k530 k531 k532 k533 k534 k535 k536 k537 k538 k539 k540 k541 k542 k543 k544 k545 k546 k547 k548 k549 k550 k551 k552 k553 k554 k555 k556 k557 k558 k559 u12 u13 u14 u15 u16 u17 u18 u19 u129 u130 u131 u132 u133 u134 u135 u136 u137 u138 u139 u140 u141 u142 u143 u144 u145 u146 u147 u148 u149 u150 u151 u152 u153 u154 u155 u156 u157 u158 u159 u160 u161 u162 u163 u164 u165 u166 u167 u168 u169 u170 u171 u172 u173 u174 u175 u176 u177 u178 u179 u180 u181 u182 u183 u184 u185 u186 u187 u188 u189 u190 u191 u192 u193 u194 u195 u196 u197 u198 u199 u200 u201 u202 u203 u204 u205 u206 u207 u208 u209 u210 u211 u212 u213 u214 u215 u216 u217 u218 u219 u220 u221 u222 u223 u224 u225 u226 u227 u228 u229 u230 u231 u232 u233 u234 u235 u236 u237 u238 u239 u240 u241 u242 u243 u244 u245 u246 u247 u248 u249 u250 u251 u252 u253 u254 u255 u256 u257 u258 u259 u260 u261 u262 u263 u264 u265 u266 u267 u268 u269 u270 u271 u272 u273 u274 u275 u276 u277 u278 u279 u280 u281 u282 u283 u284 u285 u286 u287 u288 u289 u290 u291 u292 u293 u294 u295 u296 u297 u298 u299 u300 u301 u302 u303 u304 u305 u306 u307 u308 u309 u310 u311 u312 u313 u314 u315 u316 u317 u318 u319 u320 u321 u322 u323 u324 u325 u326 u327 u328 u329 u330 u331 u332 u333 u334 u335 u336 u337 u338 u339 u340 u341 u342 u343 u344 u345 u346 u347 u348 u349 u350 u351 u352 u353 u354 u355 u356 u357 u358 u359 u360 u361 u362 u363 u364 u365 u366 u367 u368 u369 u370 u371 u372 u373 u374 u375 u376 u377 u378 u379 u380 u381 u382 u383 u384 u385 u386 u387 u388 u389 u390 u391 u392 u393 u394 u395 u396 u397 u398 u399 u400 u401 u402 u403 u404 u405 u406 u407 u408 u409 u410 u411 u412 u413 u414 u415 u416 u417 u418 u419 u420 u421 u422 u423 u424 u425 u426 u427 u428 u429 u430 u431 u432 u433 u434 u435 u436 u437 u438 u439 u440 u441 u442 u443 u444 u445 u446 u447 u448 u449 u450 u451 u452 u453 u454 u455 u456 u457 u458 u459 u460 u461 u462 u463 u464 u465 u466 u467 u468 u469 u470 u471 u472 u473 u474 u475 : Value} {F : Interp} {g : Nat} {bE bF : Addr} {R : QRes} {nl0 a : Nat} {c0 : CV} {w0 : World} {P : Nat} {r10 : Int} {f lb lo n cap : Nat} {acc : List (List UInt8)} {ln : List UInt8} {c : CV} {ps : List Value} {pl : Int} {v7 : Value} {w : World} {K : Act → World → Prop} {Q' : Exit → Act → World → Prop}
    (E : Env F g bE bF c0 w0) (hnc : n ≤ cap) (hln : ln.length = n) (hseg : Seg w lb lo ln) (hFX : FX g c0 w0 lb P pl c acc.flatten (ixsOf acc) ps w)
    (hRQ : RQ g bE R nl0 a acc none ln c.nl (acc.flatten.length + acc.length) (f + 1) v7 w) (hfst : Fst nl0 a acc ps pl)
    (hh : ln.head? ≠ some 34 ∧ 34 ∈ ln.take (if 44 ∈ ln then (Lib.indexByte ln 44).toNat else n - nlOf ln))
    (hK : ∀ (u6 u12 u13 u14 u15 u16 u17 u18 u19 u129 u130 u131 u132 u133 u134 u135 u136 u137 u138 u139 u140 u141 u142 u143 u144 u145 u146 u147 u148 u149 u150 u151 u152 u153 u154 u155 u156 u157 u158 u159 u160 u161 u162 u163 u164 u165 u166 u167 u168 u169 u170 u171 u172 u173 u174 u175 u176 u177 u178 u179 u180 u181 u182 u183 u184 u185 u186 u187 u188 u189 u190 u191 u192 u193 u194 u195 u196 u197 u198 u199 u200 u201 u202 u203 u204 u205 u206 u207 u208 u209 u210 u211 u212 u213 u214 u215 u216 u217 u218 u219 u220 u221 u222 u223 u224 u225 u226 u227 u228 u229 u230 u231 u232 u233 u234 u235 u236 u237 u238 u239 u240 u241 u242 u243 u244 u245 u246 u247 u248 u249 u250 u251 u252 u253 u254 u255 u256 u257 u258 u259 u260 u261 u262 u263 u264 u265 u266 u267 u268 u269 u270 u271 u272 u273 u274 u275 u276 u277 u278 u279 u280 u281 u282 u283 u284 u285 u286 u287 u288 u289 u290 u291 u292 u293 u294 u295 u296 u297 u298 u299 u300 u301 u302 u303 u304 u305 u306 u307 u308 u309 u310 u311 u312 u313 u314 u315 u316 u317 u318 u319 u320 u321 u322 u323 u324 u325 u326 u327 u328 u329 u330 u331 u332 u333 u334 u335 u336 u337 u338 u339 u340 u341 u342 u343 u344 u345 u346 u347 u348 u349 u350 u351 u352 u353 u354 u355 u356 u357 u358 u359 u360 u361 u362 u363 u364 u365 u366 u367 u368 u369 u370 u371 u372 u373 u374 u375 u376 u377 u378 u379 u380 u381 u382 u383 u384 u385 u386 u387 u388 u389 u390 u391 u392 u393 u394 u395 u396 u397 u398 u399 u400 u401 u402 u403 u404 u405 u406 u407 u408 u409 u410 u411 u412 u413 u414 u415 u416 u417 u418 u419 u420 u421 u422 u423 u424 u425 u426 u427 u428 u429 u430 u431 u432 u433 u434 u435 u436 u437 u438 u439 u440 u441 u442 u443 u444 u445 u446 u447 u448 u449 u450 u451 u452 u453 u454 u455 u456 u457 u458 u459 u460 u461 u462 u463 u464 u465 u466 u467 u468 u469 u470 u471 u472 u473 u474 u475 v7 v8 : Value) (w' : World), EndQ g bE R nl0 c0 w0 P v7 v8 w' → Q' (.exit 2) ⟨#[.pointer (some ⟨g + 4, 0, none⟩), k1, k2, k3, k4, k5, u6, v7, v8, .int .i64 1, .int .i64 r10, .pointer (some ⟨P, 0, none⟩), u12, u13, u14, u15, u16, u17, u18, u19, k20, k21, k22, k23, k24, k25, k26, k27, k28, k29, k30, k31, k32, k33, k34, k35, k36, k37, k38, k39, k40, k41, k42, k43, k44, k45, k46, k47, k48, k49, k50, k51, k52, k53, k54, k55, k56, k57, k58, k59, k60, k61, k62, k63, k64, k65, k66, k67, k68, k69, k70, k71, k72, k73, k74, k75, k76, k77, k78, k79, k80, k81, k82, k83, k84, k85, k86, k87, k88, k89, k90, k91, k92, k93, k94, k95, k96, k97, k98, k99, k100, k101, k102, k103, k104, k105, k106, k107, k108, k109, k110, k111, k112, k113, k114, k115, k116, k117, k118, k119, k120, k121, k122, k123, k124, k125, k126, k127, k128, u129, u130, u131, u132, u133, u134, u135, u136, u137, u138, u139, u140, u141, u142, u143, u144, u145, u146, u147, u148, u149, u150, u151, u152, u153, u154, u155, u156, u157, u158, u159, u160, u161, u162, u163, u164, u165, u166, u167, u168, u169, u170, u171, u172, u173, u174, u175, u176, u177, u178, u179, u180, u181, u182, u183, u184, u185, u186, u187, u188, u189, u190, u191, u192, u193, u194, u195, u196, u197, u198, u199, u200, u201, u202, u203, u204, u205, u206, u207, u208, u209, u210, u211, u212, u213, u214, u215, u216, u217, u218, u219, u220, u221, u222, u223, u224, u225, u226, u227, u228, u229, u230, u231, u232, u233, u234, u235, u236, u237, u238, u239, u240, u241, u242, u243, u244, u245, u246, u247, u248, u249, u250, u251, u252, u253, u254, u255, u256, u257, u258, u259, u260, u261, u262, u263, u264, u265, u266, u267, u268, u269, u270, u271, u272, u273, u274, u275, u276, u277, u278, u279, u280, u281, u282, u283, u284, u285, u286, u287, u288, u289, u290, u291, u292, u293, u294, u295, u296, u297, u298, u299, u300, u301, u302, u303, u304, u305, u306, u307, u308, u309, u310, u311, u312, u313, u314, u315, u316, u317, u318, u319, u320, u321, u322, u323, u324, u325, u326, u327, u328, u329, u330, u331, u332, u333, u334, u335, u336, u337, u338, u339, u340, u341, u342, u343, u344, u345, u346, u347, u348, u349, u350, u351, u352, u353, u354, u355, u356, u357, u358, u359, u360, u361, u362, u363, u364, u365, u366, u367, u368, u369, u370, u371, u372, u373, u374, u375, u376, u377, u378, u379, u380, u381, u382, u383, u384, u385, u386, u387, u388, u389, u390, u391, u392, u393, u394, u395, u396, u397, u398, u399, u400, u401, u402, u403, u404, u405, u406, u407, u408, u409, u410, u411, u412, u413, u414, u415, u416, u417, u418, u419, u420, u421, u422, u423, u424, u425, u426, u427, u428, u429, u430, u431, u432, u433, u434, u435, u436, u437, u438, u439, u440, u441, u442, u443, u444, u445, u446, u447, u448, u449, u450, u451, u452, u453, u454, u455, u456, u457, u458, u459, u460, u461, u462, u463, u464, u465, u466, u467, u468, u469, u470, u471, u472, u473, u474, u475, k476, k477, k478, k479, k480, k481, k482, k483, k484, k485, k486, k487, k488, k489, k490, k491, k492, k493, k494, k495, k496, k497, k498, k499, k500, k501, k502, k503, k504, k505, k506, k507, k508, k509, k510, k511, k512, k513, k514, k515, k516, k517, k518, k519, k520, k521, k522, k523, k524, k525, k526, k527, k528, k529, k530, k531, k532, k533, k534, k535, k536, k537, k538, k539, k540, k541, k542, k543, k544, k545, k546, k547, k548, k549, k550, k551, k552, k553, k554, k555, k556, k557, k558, k559], []⟩ w') :
    Code.wp Tryf.prog fBody (Exit.then K Q') ⟨#[.pointer (some ⟨g + 4, 0, none⟩), k1, k2, k3, k4, k5, .slice (some ⟨lb, lo, none⟩) n cap, v7, .nilIface, .int .i64 1, .int .i64 r10, .pointer (some ⟨P, 0, none⟩), u12, u13, u14, u15, u16, u17, u18, u19, k20, k21, k22, k23, k24, k25, k26, k27, k28, k29, k30, k31, k32, k33, k34, k35, k36, k37, k38, k39, k40, k41, k42, k43, k44, k45, k46, k47, k48, k49, k50, k51, k52, k53, k54, k55, k56, k57, k58, k59, k60, k61, k62, k63, k64, k65, k66, k67, k68, k69, k70, k71, k72, k73, k74, k75, k76, k77, k78, k79, k80, k81, k82, k83, k84, k85, k86, k87, k88, k89, k90, k91, k92, k93, k94, k95, k96, k97, k98, k99, k100, k101, k102, k103, k104, k105, k106, k107, k108, k109, k110, k111, k112, k113, k114, k115, k116, k117, k118, k119, k120, k121, k122, k123, k124, k125, k126, k127, k128, u129, u130, u131, u132, u133, u134, u135, u136, u137, u138, u139, u140, u141, u142, u143, u144, u145, u146, u147, u148, u149, u150, u151, u152, u153, u154, u155, u156, u157, u158, u159, u160, u161, u162, u163, u164, u165, u166, u167, u168, u169, u170, u171, u172, u173, u174, u175, u176, u177, u178, u179, u180, u181, u182, u183, u184, u185, u186, u187, u188, u189, u190, u191, u192, u193, u194, u195, u196, u197, u198, u199, u200, u201, u202, u203, u204, u205, u206, u207, u208, u209, u210, u211, u212, u213, u214, u215, u216, u217, u218, u219, u220, u221, u222, u223, u224, u225, u226, u227, u228, u229, u230, u231, u232, u233, u234, u235, u236, u237, u238, u239, u240, u241, u242, u243, u244, u245, u246, u247, u248, u249, u250, u251, u252, u253, u254, u255, u256, u257, u258, u259, u260, u261, u262, u263, u264, u265, u266, u267, u268, u269, u270, u271, u272, u273, u274, u275, u276, u277, u278, u279, u280, u281, u282, u283, u284, u285, u286, u287, u288, u289, u290, u291, u292, u293, u294, u295, u296, u297, u298, u299, u300, u301, u302, u303, u304, u305, u306, u307, u308, u309, u310, u311, u312, u313, u314, u315, u316, u317, u318, u319, u320, u321, u322, u323, u324, u325, u326, u327, u328, u329, u330, u331, u332, u333, u334, u335, u336, u337, u338, u339, u340, u341, u342, u343, u344, u345, u346, u347, u348, u349, u350, u351, u352, u353, u354, u355, u356, u357, u358, u359, u360, u361, u362, u363, u364, u365, u366, u367, u368, u369, u370, u371, u372, u373, u374, u375, u376, u377, u378, u379, u380, u381, u382, u383, u384, u385, u386, u387, u388, u389, u390, u391, u392, u393, u394, u395, u396, u397, u398, u399, u400, u401, u402, u403, u404, u405, u406, u407, u408, u409, u410, u411, u412, u413, u414, u415, u416, u417, u418, u419, u420, u421, u422, u423, u424, u425, u426, u427, u428, u429, u430, u431, u432, u433, u434, u435, u436, u437, u438, u439, u440, u441, u442, u443, u444, u445, u446, u447, u448, u449, u450, u451, u452, u453, u454, u455, u456, u457, u458, u459, u460, u461, u462, u463, u464, u465, u466, u467, u468, u469, u470, u471, u472, u473, u474, u475, k476, k477, k478, k479, k480, k481, k482, k483, k484, k485, k486, k487, k488, k489, k490, k491, k492, k493, k494, k495, k496, k497, k498, k499, k500, k501, k502, k503, k504, k505, k506, k507, k508, k509, k510, k511, k512, k513, k514, k515, k516, k517, k518, k519, k520, k521, k522, k523, k524, k525, k526, k527, k528, k529, k530, k531, k532, k533, k534, k535, k536, k537, k538, k539, k540, k541, k542, k543, k544, k545, k546, k547, k548, k549, k550, k551, k552, k553, k554, k555, k556, k557, k558, k559], []⟩ w := by
  have HE := hid_of E
  have HLN := hid_of hln
  have HSEG := hid_of hseg
  have HFX := hid_of hFX
  have HRQ := hid_of hRQ
  have HFST := hid_of hfst
  have HK := hid_of hK
  have HH := hid_of hh
  have hbd := hRQ.bound
  rw [hln] at hbd
  have d4 := hFX.rows.csv.cell (i := 4) rfl
  have d3 := hFX.rows.csv.cell (i := 3) rfl
  have d0 := hFX.rows.csv.cell (i := 0) rfl
  clear E hln hseg hFX hRQ hfst hK hh
  conv => arg 2; whnf
  go_upto_region 27 with fail
  go_cut [161] from 153 to 160 (fun v161 wr' => v161 = .bool true ∧ wr' = w)
  case first =>
    by_cases hn0 : n = 0
    · subst hn0
      go_wp2_with fail
      go_meet
      exact ⟨rfl, rfl⟩
    · have hl0 : 0 < ln.length := by have := HLN.out; omega
      have hb := HSEG.out 0 hl0
      have hne : ((ln[0].toNat : Int) == 34) = false := by
        rw [beq_eq_false_iff_ne]
        intro h'
        apply HH.out.1
        have : ln[0] = 34 := UInt8.toNat_inj.1 (by have : (34 : UInt8).toNat = 34 := rfl; omega)
        rw [List.head?_eq_getElem?, List.getElem?_eq_getElem hl0, this]
      have hnz : ((n : Int) == 0) = false := by rw [beq_eq_false_iff_ne]; omega
      have hnp : (0 : Int) < (n : Int) := by omega
      rw [Nat.add_zero] at hb
      go_wp2_with fail
      go_meet
      exact ⟨by simp [bne, hne], rfl⟩
  case rest =>
  obtain ⟨rfl, hw⟩ := hcut
  have hw' := hw.symm
  subst hw'
  clear hw
  obtain ⟨x, hx⟩ : ∃ x, Lib.indexByte ln 44 = x := ⟨_, rfl⟩
  have cX := indexRune_calls w lb lo n cap ln HLN.out HSEG.out
  rw [hx] at cX
  obtain ⟨m, hmm⟩ : ∃ m, (if 44 ∈ ln then x.toNat else n - nlOf ln) = m := ⟨_, rfl⟩
  have HX : Hid ((x = -1 ∧ 44 ∉ ln ∧ m = n - nlOf ln) ∨ ∃ j : Nat, x = j ∧ j < n ∧ m = j ∧ 44 ∈ ln ∧ idx ln 44 = j) := by
    rcases indexByte_cases ln 44 with ⟨e, hno⟩ | ⟨j, e, hj, hj2, hj3⟩
    · rw [if_neg hno] at hmm
      exact .inl ⟨by rw [← hx, e], hno, hmm.symm⟩
    · have hin : 44 ∈ ln := by rw [← hj2]; exact List.getElem_mem hj
      rw [if_pos hin] at hmm
      have hxj : x = (j : Int) := by rw [← hx, e]
      exact .inr ⟨j, hxj, by have := HLN.out; omega, by omega, hin, by unfold idx; rw [e]; rfl⟩
  have hmn : m ≤ n := by rcases HX.out with ⟨-, -, h⟩ | ⟨j, -, h1, h2, -⟩ <;> omega
  obtain ⟨fld, hfld⟩ : ∃ fld, ln.take m = fld := ⟨_, rfl⟩
  have hm : fld.length = m := by rw [← hfld, List.length_take]; have := HLN.out; omega
  have hsegf : Seg w lb lo fld := by rw [← hfld]; exact HSEG.out.take m
  have cQ := index_calls w lb lo m cap fld hm hsegf 34
  rw [show ((34 : Int).toNat).toUInt8 = 34 by rfl] at cQ
  have hfq := HH.out.2
  rw [show (if 44 ∈ ln then (Lib.indexByte ln 44).toNat else n - nlOf ln) = m by rw [hx]; exact hmm, hfld] at hfq
  obtain ⟨jq, hjq⟩ : ∃ jq : Nat, Lib.indexByte fld 34 = (jq : Int) := by
    rcases indexByte_cases fld 34 with ⟨e, hno⟩ | ⟨j, e, -⟩
    · exact absurd hfq hno
    · exact ⟨j, e⟩
  rw [hjq] at cQ
  clear hjq
  obtain ⟨gt, gx, hG⟩ := HE.out.err2 HFX.out.frm.only
  obtain ⟨col, hP⟩ := HFX.out.p.p
  have p1 := hP.cell (i := 1) rfl
  clear hP
  have HF := hid_of hfld
  have HM := hid_of hm
  have HSF := hid_of hsegf
  have HFQ := hid_of hfq
  clear hx hmm hfld hm hsegf hfq
  go_upto_if 170 with (go_at_call 58; go_fit cX; rintro e wb ⟨rfl, rfl⟩; dsimp only)
  go_cut [14] from 171 to 180 (fun v14 wr' => v14 = .slice (some ⟨lb, lo, none⟩) m cap ∧ wr' = wb)
  case first =>
    rcases HX.out with ⟨rfl, h44, hm'⟩ | ⟨j, rfl, hj, hm', h44, hix⟩
    · have cN := nl_calls wb lb lo n cap ln HLN.out (by omega) HSEG.out
      have hle := nlOf_le ln
      rw [HLN.out] at hle
      have i0 : (0 : Int) ≤ (n : Int) - (nlOf ln : Int) := by omega
      have i1 : (n : Int) - (nlOf ln : Int) ≤ (cap : Int) := by omega
      have i2 : ((n : Int) - (nlOf ln : Int)).toNat = m := by omega
      clear h44 hm'
      go_wp2_with (go_at_call 53; go_fit cN; rintro e wd ⟨rfl, rfl⟩; dsimp only)
      go_meet
      exact ⟨by simp [i2], rfl⟩
    · have j0 : (0 : Int) ≤ (j : Int) := by omega
      have j1 : (j : Int) ≤ (cap : Int) := by omega
      subst hm'
      clear h44 hix
      go_wp2_with fail
      go_meet
      exact ⟨rfl, rfl⟩
  case rest =>
  obtain ⟨rfl, hw⟩ := hcut
  have hw' := hw.symm
  subst hw'
  clear hw
  go_upto_region 37 with (go_at_call 30; go_fit cQ; rintro e wd ⟨rfl, rfl⟩; dsimp only)
  refine perr37 HFX.out hG ?_
  intro y194 y195 y196 y197 y198 y199 y200 y201 y202 y203 v9 w9 hO9
  have hF9 := HFX.out.new hO9
  have HF9 := hid_of hF9
  clear hF9 hO9 hG d0 d3 d4 cQ cX p1
  go_wp2_with fail
  have hfin := HF9.out
  rw [← List.append_nil acc.flatten] at hfin
  refine HK.out _ _ _ _ _ _ _ _ _ _ _ _ _ _ _ _ _ _ _ _ _ _ _ _ _ _ _ _ _ _ _ _ _ _ _ _ _ _ _ _ _ _ _ _ _ _ _ _ _ _ _ _ _ _ _ _ _ _ _ _ _ _ _ _ _ _ _ _ _ _ _ _ _ _ _ _ _ _ _ _ _ _ _ _ _ _ _ _ _ _ _ _ _ _ _ _ _ _ _ _ _ _ _ _ _ _ _ _ _ _ _ _ _ _ _ _ _ _ _ _ _ _ _ _ _ _ _ _ _ _ _ _ _ _ _ _ _ _ _ _ _ _ _ _ _ _ _ _ _ _ _ _ _ _ _ _ _ _ _ _ _ _ _ _ _ _ _ _ _ _ _ _ _ _ _ _ _ _ _ _ _ _ _ _ _ _ _ _ _ _ _ _ _ _ _ _ _ _ _ _ _ _ _ _ _ _ _ _ _ _ _ _ _ _ _ _ _ _ _ _ _ _ _ _ _ _ _ _ _ _ _ _ _ _ _ _ _ _ _ _ _ _ _ _ _ _ _ _ _ _ _ _ _ _ _ _ _ _ _ _ _ _ _ _ _ _ _ _ _ _ _ _ _ _ _ _ _ _ _ _ _ _ _ _ _ _ _ _ _ _ _ _ _ _ _ _ _ _ _ _ _ _ _ _ _ _ _ _ _ _ _ _ _ _ _ _ _ _ _ _ _ _ _ _ _ _ _ _ _ _ _ _ _ _ _ _ _ _ _ _ _ _ _ _ _ _ _ _ _ _ _ _ _ _ _ _ _ _ _ ⟨lb, pl, acc, [], _, _, hfin, by omega, .inr (.inr ⟨?_, _, rfl⟩)⟩
  refine HRQ.out.bad (fun s rest b => ?_)
  rcases HX.out with ⟨rfl, h44, hm'⟩ | ⟨j, rfl, hj, hm', h44, hix⟩
  · have hfe : ln.take (ln.length - nle ln) = fld := by
      have h1 := HLN.out
      have h2 := HF.out
      rw [nle_eq, h1, ← hm']
      exact h2
    exact par_last_bad HH.out.1 h44 (by rw [hfe]; exact HFQ.out)
  · have hfe : ln.take (idx ln 44) = fld := by rw [hix, ← hm']; exact HF.out
    exact par_comma_bad HH.out.1 h44 (by rw [hfe]; exact HFQ.out)
end Go.Proofs.Qxb6614395aFmt
