import Derived.Test.Qxb6614338aDoorMain0
namespace Go.Proofs.Qxb6614338aDoor
open Go.RowKit
variable {C : SC} {b : Nat} {w0 wa : World} {a c : Nat} {v0 va : Int} {S Wn : Nat → Int} {rk N0 P0 : Nat → Nat} {g3 g4 g7 g8 g10 g11 g12 g13 g14 : Nat}

set_option maxRecDepth 1000000 in
set_option maxHeartbeats 4000000 in
theorem t46 {u0 u1 u2 u3 u8 u11 u12 u13 u14 u15 u16 u17 u18 u19 u20 u21 u22 u23 u24 u27 u28 u31 u43 u44 u45 u46 u47 u48 u49 u50 u51 u52 u53 u54 u55 u56 u57 u58 u59 u60 u61 u62 u63 u64 u65 u66 u67 u68 u69 u70 u71 u72 u73 u74 u75 u76 u77 u78 u79 u80 u81 u82 u83 u84 u85 u86 u87 u88 u89 u90 u91 u92 u93 u94 u95 u96 u97 u98 u99 u100 u101 u102 u103 u104 u105 u106 u107 u108 u109 u110 u111 u112 u113 u114 u115 u116 u117 u118 u119 u120 u121 u122 u123 u124 u125 u126 u127 u128 u129 u130 u131 u132 u133 u134 u135 u136 u137 u138 u139 u140 u141 u142 u143 u144 u145 u146 u147 u148 u149 u150 u151 u152 u153 u154 u155 u156 u157 u158 u159 u160 u161 u162 u163 u164 u165 u166 u167 u168 u169 u170 u171 u172 u173 u174 u175 u176 u177 u178 u179 u180 u181 u182 u183 u184 u185 u186 u187 u188 u189 u190 u191 u192 u193 u194 u195 u196 u197 u198 u199 u200 u201 u202 u203 u204 u205 u206 u207 u208 u209 u210 u211 u212 u213 u214 u215 u216 u217 u218 u219 u220 u221 u222 u223 u224 u225 u226 u227 u228 u229 u230 u231 u232 u233 u234 u235 u236 u237 u238 u239 u240 u241 u242 u243 u244 u245 u246 u247 u248 u249 u250 u251 u252 u253 u254 u255 u256 u257 u258 u259 u260 u261 u262 u263 u264 u265 u266 u267 u268 u269 u270 u271 u272 u273 u274 u275 u276 u277 u278 u279 u280 u281 u282 u283 u284 u285 u286 u287 u288 u289 u290 u291 u292 u293 u294 u295 u296 u297 u298 u299 u300 u301 u302 u303 u304 u305 u306 u307 u308 u309 u310 u311 u312 u313 u314 u315 u316 u317 u318 u319 u320 u321 u322 u323 u324 u325 u326 u327 u328 u329 u330 u331 u332 u333 u334 u335 u336 u337 u338 u339 u340 u341 u342 u343 u344 u345 u346 u347 u348 u349 u350 u351 u352 u353 u354 u355 u356 u357 u358 u359 u360 u361 u362 u363 u364 u365 u366 u367 u368 u369 u370 u371 u372 u373 u374 u375 u376 u377 u378 u379 u380 u381 u382 u383 u384 u385 u386 u387 u388 u389 u390 u391 u392 u393 u394 u395 u396 u397 u398 u399 u400 u401 u402 u403 u404 u405 u406 u407 u408 u409 u410 u411 u412 u413 u414 u415 u416 u417 u418 u419 u420 u421 u422 u423 u424 u425 u426 u427 u428 u429 u430 u431 u432 u433 u434 u435 u436 u437 u438 u439 u440 u441 u442 u443 u444 u445 u446 u447 u448 : Value} (F : Fx C b w0 a c v0 va S Wn rk N0 P0 g3 g4 g7 g8 g10 g11 g12 g13 g14) {B : Nat → Nat} {g cap : Nat} {fa fb : Bool} (h : St C b wa N0 P0 S Wn (fun v : Nat => cnt Wn (fun _ => false) C.n v) (fun v : Nat => cnt S (fun _ => false) C.n v) B 0 (-1) v0 (.slice (some ⟨g, 0, none⟩) 0 cap) 0 []) : Code.wp Tryd.prog (TAIL Tryd.f3 46) (bodyPost Tryd.prog Tryd.f3 (Good w0)) ⟨#[u0, u1, u2, u3, .int .i64 (a : Int), .int .i64 (c : Int), .int .i64 v0, .int .i64 va, u8, .bool fa, .bool fb, u11, u12, u13, u14, u15, u16, u17, u18, u19, u20, u21, u22, u23, u24, .slice (some ⟨g3, 0, none⟩) C.h C.h, .slice (some ⟨g4, 0, none⟩) C.h C.h, u27, u28, .slice (some ⟨g7, 0, none⟩) C.h C.h, .slice (some ⟨g8, 0, none⟩) C.h C.h, u31, .slice (some ⟨g10, 0, none⟩) C.n C.n, .slice (some ⟨g11, 0, none⟩) C.m C.m, .slice (some ⟨g12, 0, none⟩) C.m C.m, .slice (some ⟨g13, 0, none⟩) C.m C.m, .slice (some ⟨g14, 0, none⟩) C.m C.m, .pointer (some ⟨b, 0, none⟩), .int .i32 (a : Int), .int .i32 v0, .int .i32 (-1), .int .i32 0, .bool fa, u43, u44, u45, u46, u47, u48, u49, u50, u51, u52, u53, u54, u55, u56, u57, u58, u59, u60, u61, u62, u63, u64, u65, u66, u67, u68, u69, u70, u71, u72, u73, u74, u75, u76, u77, u78, u79, u80, u81, u82, u83, u84, u85, u86, u87, u88, u89, u90, u91, u92, u93, u94, u95, u96, u97, u98, u99, u100, u101, u102, u103, u104, u105, u106, u107, u108, u109, u110, u111, u112, u113, u114, u115, u116, u117, u118, u119, u120, u121, u122, u123, u124, u125, u126, u127, u128, u129, u130, u131, u132, u133, u134, u135, u136, u137, u138, u139, u140, u141, u142, u143, u144, u145, u146, u147, u148, u149, u150, u151, u152, u153, u154, u155, u156, u157, u158, u159, u160, u161, u162, u163, u164, u165, u166, u167, u168, u169, u170, u171, u172, u173, u174, u175, u176, u177, u178, u179, u180, u181, u182, u183, u184, u185, u186, u187, u188, u189, u190, u191, u192, u193, u194, u195, u196, u197, u198, u199, u200, u201, u202, u203, u204, u205, u206, u207, u208, u209, u210, u211, u212, u213, u214, u215, u216, u217, u218, u219, u220, u221, u222, u223, u224, u225, u226, u227, u228, u229, u230, u231, u232, u233, u234, u235, u236, u237, u238, u239, u240, u241, u242, u243, u244, u245, u246, u247, u248, u249, u250, u251, u252, u253, u254, u255, u256, u257, u258, u259, u260, u261, u262, u263, u264, u265, u266, u267, u268, u269, u270, u271, u272, u273, u274, u275, u276, u277, u278, u279, u280, u281, u282, u283, u284, u285, u286, u287, u288, u289, u290, u291, u292, u293, u294, u295, u296, u297, u298, u299, u300, u301, u302, u303, u304, u305, u306, u307, u308, u309, u310, u311, u312, u313, u314, u315, u316, u317, u318, u319, u320, u321, u322, u323, u324, u325, u326, u327, u328, u329, u330, u331, u332, u333, u334, u335, u336, u337, u338, u339, u340, u341, u342, u343, u344, u345, u346, u347, u348, u349, u350, u351, u352, u353, u354, u355, u356, u357, u358, u359, u360, u361, u362, u363, u364, u365, u366, u367, u368, u369, u370, u371, u372, u373, u374, u375, u376, u377, u378, u379, u380, u381, u382, u383, u384, u385, u386, u387, u388, u389, u390, u391, u392, u393, u394, u395, u396, u397, u398, u399, u400, u401, u402, u403, u404, u405, u406, u407, u408, u409, u410, u411, u412, u413, u414, u415, u416, u417, u418, u419, u420, u421, u422, u423, u424, u425, u426, u427, u428, u429, u430, u431, u432, u433, u434, u435, u436, u437, u438, u439, u440, u441, u442, u443, u444, u445, u446, u447, u448], []⟩ wa := by
  have H := hid h
  have HF := hid F
  obtain ⟨f1, f2⟩ := F.v0
  obtain ⟨f1', f2'⟩ := F.va
  have f3 := F.ha
  have f3' := F.hc
  have f4 := F.n3
  clear h F
  rw [show TAIL Tryd.f3 46 = .seq (headS (TAIL Tryd.f3 46)) (TAIL Tryd.f3 47) from rfl]
  conv => arg 2; arg 1; whnf
  go_wp2_with fail
  rw [show TAIL Tryd.f3 47 = .seq (headS (TAIL Tryd.f3 47)) (TAIL Tryd.f3 48) from rfl]
  conv => arg 2; arg 1; whnf
  go_wp2_with fail
  refine (value_any H.out).mono ?_
  rintro e w' ⟨rfl, rfl⟩
  go_wp2_with fail
  refine (stacklen_any H.out).mono ?_
  rintro e w' ⟨rfl, rfl⟩
  go_wp2_with fail
  rw [show TAIL Tryd.f3 48 = .seq (headS (TAIL Tryd.f3 48)) (TAIL Tryd.f3 49) from rfl]
  conv => arg 2; arg 1; whnf
  go_wp2_with fail
  refine (links_any H.out).mono ?_
  rintro e w' ⟨rfl, q, rfl⟩
  replace H := hid (H.out.drewN q)
  generalize World.drewN _ q = wb at *
  go_wp2_with fail
  rw [show TAIL Tryd.f3 49 = .seq (headS (TAIL Tryd.f3 49)) (TAIL Tryd.f3 50) from rfl]
  conv => arg 2; arg 1; whnf
  go_wp2_with fail
  refine (equal_any C.gn g3 C.h _ _ _ (by have := HF.out.n3; have := HF.out.m1; have := HF.out.hh; omega) H.out.n (World.rowIs.of_block HF.out.r3 (HF.out.kept H.out.kp (by simp))) (fun _ _ => rfl)).mono ?_
  rintro e w' ⟨rfl, q2, rfl⟩
  replace H := hid (H.out.drewN q2)
  generalize World.drewN _ q2 = wb at *
  go_wp2_with fail
  refine (equal_any C.gp g4 C.h _ _ _ (by have := HF.out.n3; have := HF.out.m1; have := HF.out.hh; omega) H.out.p (World.rowIs.of_block HF.out.r4 (HF.out.kept H.out.kp (by simp))) (fun _ _ => rfl)).mono ?_
  rintro e w' ⟨rfl, q2, rfl⟩
  replace H := hid (H.out.drewN q2)
  generalize World.drewN _ q2 = wb at *
  go_wp2_with fail
  rw [show TAIL Tryd.f3 50 = .seq (headS (TAIL Tryd.f3 50)) (TAIL Tryd.f3 51) from rfl]
  conv => arg 2; arg 1; whnf
  go_wp2_with fail
  refine (counts_any H.out).mono ?_
  rintro e w' ⟨rfl, q, rfl⟩
  replace H := hid (H.out.drewN q)
  generalize World.drewN _ q = wb at *
  go_wp2_with fail
  rw [show TAIL Tryd.f3 51 = .seq (headS (TAIL Tryd.f3 51)) (TAIL Tryd.f3 52) from rfl]
  conv => arg 2; arg 1; whnf
  go_wp2_with fail
  refine (equal_any C.gw g11 C.m _ _ _ (by have := HF.out.n3; have := HF.out.m1; have := HF.out.hh; omega) H.out.wt (World.rowIs.of_block HF.out.r11 (HF.out.kept H.out.kp (by simp))) (fun _ _ => rfl)).mono ?_
  rintro e w' ⟨rfl, q2, rfl⟩
  replace H := hid (H.out.drewN q2)
  generalize World.drewN _ q2 = wb at *
  go_wp2_with fail
  refine (equal_any C.gt g12 C.m _ _ _ (by have := HF.out.n3; have := HF.out.m1; have := HF.out.hh; omega) H.out.tt (World.rowIs.of_block HF.out.r12 (HF.out.kept H.out.kp (by simp))) (fun _ _ => rfl)).mono ?_
  rintro e w' ⟨rfl, q2, rfl⟩
  replace H := hid (H.out.drewN q2)
  generalize World.drewN _ q2 = wb at *
  go_wp2_with fail
  rw [show TAIL Tryd.f3 52 = .seq (headS (TAIL Tryd.f3 52)) (TAIL Tryd.f3 53) from rfl]
  conv => arg 2; arg 1; whnf
  go_wp2_with fail
  refine (ends_any H.out).mono ?_
  rintro e w' ⟨rfl, q, rfl⟩
  replace H := hid (H.out.drewN q)
  generalize World.drewN _ q = wb at *
  go_wp2_with fail
  conv => arg 2; whnf
  go_wp2_with fail
  go_ret
  exact ⟨rfl, HF.out.good H.out.kp⟩

set_option maxRecDepth 1000000 in
set_option maxHeartbeats 4000000 in
theorem t45 {u0 u1 u2 u3 u8 u11 u12 u13 u14 u15 u16 u17 u18 u19 u20 u21 u22 u23 u24 u27 u28 u31 u38 u39 u40 u41 u42 u43 u44 u45 u46 u47 u48 u49 u50 u51 u52 u53 u54 u55 u56 u57 u58 u59 u60 u61 u62 u63 u64 u65 u66 u67 u68 u69 u70 u71 u72 u73 u74 u75 u76 u77 u78 u79 u80 u81 u82 u83 u84 u85 u86 u87 u88 u89 u90 u91 u92 u93 u94 u95 u96 u97 u98 u99 u100 u101 u102 u103 u104 u105 u106 u107 u108 u109 u110 u111 u112 u113 u114 u115 u116 u117 u118 u119 u120 u121 u122 u123 u124 u125 u126 u127 u128 u129 u130 u131 u132 u133 u134 u135 u136 u137 u138 u139 u140 u141 u142 u143 u144 u145 u146 u147 u148 u149 u150 u151 u152 u153 u154 u155 u156 u157 u158 u159 u160 u161 u162 u163 u164 u165 u166 u167 u168 u169 u170 u171 u172 u173 u174 u175 u176 u177 u178 u179 u180 u181 u182 u183 u184 u185 u186 u187 u188 u189 u190 u191 u192 u193 u194 u195 u196 u197 u198 u199 u200 u201 u202 u203 u204 u205 u206 u207 u208 u209 u210 u211 u212 u213 u214 u215 u216 u217 u218 u219 u220 u221 u222 u223 u224 u225 u226 u227 u228 u229 u230 u231 u232 u233 u234 u235 u236 u237 u238 u239 u240 u241 u242 u243 u244 u245 u246 u247 u248 u249 u250 u251 u252 u253 u254 u255 u256 u257 u258 u259 u260 u261 u262 u263 u264 u265 u266 u267 u268 u269 u270 u271 u272 u273 u274 u275 u276 u277 u278 u279 u280 u281 u282 u283 u284 u285 u286 u287 u288 u289 u290 u291 u292 u293 u294 u295 u296 u297 u298 u299 u300 u301 u302 u303 u304 u305 u306 u307 u308 u309 u310 u311 u312 u313 u314 u315 u316 u317 u318 u319 u320 u321 u322 u323 u324 u325 u326 u327 u328 u329 u330 u331 u332 u333 u334 u335 u336 u337 u338 u339 u340 u341 u342 u343 u344 u345 u346 u347 u348 u349 u350 u351 u352 u353 u354 u355 u356 u357 u358 u359 u360 u361 u362 u363 u364 u365 u366 u367 u368 u369 u370 u371 u372 u373 u374 u375 u376 u377 u378 u379 u380 u381 u382 u383 u384 u385 u386 u387 u388 u389 u390 u391 u392 u393 u394 u395 u396 u397 u398 u399 u400 u401 u402 u403 u404 u405 u406 u407 u408 u409 u410 u411 u412 u413 u414 u415 u416 u417 u418 u419 u420 u421 u422 u423 u424 u425 u426 u427 u428 u429 u430 u431 u432 u433 u434 u435 u436 u437 u438 u439 u440 u441 u442 u443 u444 u445 u446 u447 u448 : Value} (F : Fx C b w0 a c v0 va S Wn rk N0 P0 g3 g4 g7 g8 g10 g11 g12 g13 g14) {B : Nat → Nat} {g cap : Nat} {fa fb : Bool} (hB : InS C.nb B (fun j => j == a)) (h : St C b wa (NN N0 P0 a) (PP N0 P0 a) S Wn (bump (-1) (Wn a) (fun v : Nat => cnt Wn (fun _ => false) C.n v)) (bump (-1) (S a) (fun v : Nat => cnt S (fun _ => false) C.n v)) B (firstA a) (a : Int) va (.slice (some ⟨g, 0, none⟩) 1 cap) 1 (pl (a : Int) v0 (-1) 0 fa)) : Code.wp Tryd.prog (TAIL Tryd.f3 45) (bodyPost Tryd.prog Tryd.f3 (Good w0)) ⟨#[u0, u1, u2, u3, .int .i64 (a : Int), .int .i64 (c : Int), .int .i64 v0, .int .i64 va, u8, .bool fa, .bool fb, u11, u12, u13, u14, u15, u16, u17, u18, u19, u20, u21, u22, u23, u24, .slice (some ⟨g3, 0, none⟩) C.h C.h, .slice (some ⟨g4, 0, none⟩) C.h C.h, u27, u28, .slice (some ⟨g7, 0, none⟩) C.h C.h, .slice (some ⟨g8, 0, none⟩) C.h C.h, u31, .slice (some ⟨g10, 0, none⟩) C.n C.n, .slice (some ⟨g11, 0, none⟩) C.m C.m, .slice (some ⟨g12, 0, none⟩) C.m C.m, .slice (some ⟨g13, 0, none⟩) C.m C.m, .slice (some ⟨g14, 0, none⟩) C.m C.m, .pointer (some ⟨b, 0, none⟩), u38, u39, u40, u41, u42, u43, u44, u45, u46, u47, u48, u49, u50, u51, u52, u53, u54, u55, u56, u57, u58, u59, u60, u61, u62, u63, u64, u65, u66, u67, u68, u69, u70, u71, u72, u73, u74, u75, u76, u77, u78, u79, u80, u81, u82, u83, u84, u85, u86, u87, u88, u89, u90, u91, u92, u93, u94, u95, u96, u97, u98, u99, u100, u101, u102, u103, u104, u105, u106, u107, u108, u109, u110, u111, u112, u113, u114, u115, u116, u117, u118, u119, u120, u121, u122, u123, u124, u125, u126, u127, u128, u129, u130, u131, u132, u133, u134, u135, u136, u137, u138, u139, u140, u141, u142, u143, u144, u145, u146, u147, u148, u149, u150, u151, u152, u153, u154, u155, u156, u157, u158, u159, u160, u161, u162, u163, u164, u165, u166, u167, u168, u169, u170, u171, u172, u173, u174, u175, u176, u177, u178, u179, u180, u181, u182, u183, u184, u185, u186, u187, u188, u189, u190, u191, u192, u193, u194, u195, u196, u197, u198, u199, u200, u201, u202, u203, u204, u205, u206, u207, u208, u209, u210, u211, u212, u213, u214, u215, u216, u217, u218, u219, u220, u221, u222, u223, u224, u225, u226, u227, u228, u229, u230, u231, u232, u233, u234, u235, u236, u237, u238, u239, u240, u241, u242, u243, u244, u245, u246, u247, u248, u249, u250, u251, u252, u253, u254, u255, u256, u257, u258, u259, u260, u261, u262, u263, u264, u265, u266, u267, u268, u269, u270, u271, u272, u273, u274, u275, u276, u277, u278, u279, u280, u281, u282, u283, u284, u285, u286, u287, u288, u289, u290, u291, u292, u293, u294, u295, u296, u297, u298, u299, u300, u301, u302, u303, u304, u305, u306, u307, u308, u309, u310, u311, u312, u313, u314, u315, u316, u317, u318, u319, u320, u321, u322, u323, u324, u325, u326, u327, u328, u329, u330, u331, u332, u333, u334, u335, u336, u337, u338, u339, u340, u341, u342, u343, u344, u345, u346, u347, u348, u349, u350, u351, u352, u353, u354, u355, u356, u357, u358, u359, u360, u361, u362, u363, u364, u365, u366, u367, u368, u369, u370, u371, u372, u373, u374, u375, u376, u377, u378, u379, u380, u381, u382, u383, u384, u385, u386, u387, u388, u389, u390, u391, u392, u393, u394, u395, u396, u397, u398, u399, u400, u401, u402, u403, u404, u405, u406, u407, u408, u409, u410, u411, u412, u413, u414, u415, u416, u417, u418, u419, u420, u421, u422, u423, u424, u425, u426, u427, u428, u429, u430, u431, u432, u433, u434, u435, u436, u437, u438, u439, u440, u441, u442, u443, u444, u445, u446, u447, u448], []⟩ wa := by
  have H := hid (unplaceA F hB h)
  have HF := hid F
  clear h F hB
  rw [show TAIL Tryd.f3 45 = .seq (headS (TAIL Tryd.f3 45)) (TAIL Tryd.f3 46) from rfl]
  conv => arg 2; arg 1; whnf
  go_wp2_with fail
  refine H.out.mono ?_
  rintro e w' ⟨rfl, h8⟩
  have H8 := hid h8
  clear h8 H
  dsimp only [pl]
  go_wp2_with fail
  exact t46 HF.out H8.out

set_option maxRecDepth 1000000 in
set_option maxHeartbeats 4000000 in
theorem t37 {u0 u1 u2 u3 u8 u11 u12 u13 u14 u15 u16 u17 u18 u19 u20 u21 u22 u23 u24 u27 u28 u31 u43 u44 u45 u46 u47 u48 u49 u50 u51 u52 u53 u54 u55 u56 u57 u58 u59 u60 u61 u62 u63 u64 u65 u66 u67 u68 u69 u70 u71 u72 u73 u74 u75 u76 u77 u78 u79 u80 u81 u82 u83 u84 u85 u86 u87 u88 u89 u90 u91 u92 u93 u94 u95 u96 u97 u98 u99 u100 u101 u102 u103 u104 u105 u106 u107 u108 u109 u110 u111 u112 u113 u114 u115 u116 u117 u118 u119 u120 u121 u122 u123 u124 u125 u126 u127 u128 u129 u130 u131 u132 u133 u134 u135 u136 u137 u138 u139 u140 u141 u142 u143 u144 u145 u146 u147 u148 u149 u150 u151 u152 u153 u154 u155 u156 u157 u158 u159 u160 u161 u162 u163 u164 u165 u166 u167 u168 u169 u170 u171 u172 u173 u174 u175 u176 u177 u178 u179 u180 u181 u182 u183 u184 u185 u186 u187 u188 u189 u190 u191 u192 u193 u194 u195 u196 u197 u198 u199 u200 u201 u202 u203 u204 u205 u206 u207 u208 u209 u210 u211 u212 u213 u214 u215 u216 u217 u218 u219 u220 u221 u222 u223 u224 u225 u226 u227 u228 u229 u230 u231 u232 u233 u234 u235 u236 u237 u238 u239 u240 u241 u242 u243 u244 u245 u246 u247 u248 u249 u250 u251 u252 u253 u254 u255 u256 u257 u258 u259 u260 u261 u262 u263 u264 u265 u266 u267 u268 u269 u270 u271 u272 u273 u274 u275 u276 u277 u278 u279 u280 u281 u282 u283 u284 u285 u286 u287 u288 u289 u290 u291 u292 u293 u294 u295 u296 u297 u298 u299 u300 u301 u302 u303 u304 u305 u306 u307 u308 u309 u310 u311 u312 u313 u314 u315 u316 u317 u318 u319 u320 u321 u322 u323 u324 u325 u326 u327 u328 u329 u330 u331 u332 u333 u334 u335 u336 u337 u338 u339 u340 u341 u342 u343 u344 u345 u346 u347 u348 u349 u350 u351 u352 u353 u354 u355 u356 u357 u358 u359 u360 u361 u362 u363 u364 u365 u366 u367 u368 u369 u370 u371 u372 u373 u374 u375 u376 u377 u378 u379 u380 u381 u382 u383 u384 u385 u386 u387 u388 u389 u390 u391 u392 u393 u394 u395 u396 u397 u398 u399 u400 u401 u402 u403 u404 u405 u406 u407 u408 u409 u410 u411 u412 u413 u414 u415 u416 u417 u418 u419 u420 u421 u422 u423 u424 u425 u426 u427 u428 u429 u430 u431 u432 u433 u434 u435 u436 u437 u438 u439 u440 u441 u442 u443 u444 u445 u446 u447 u448 : Value} (F : Fx C b w0 a c v0 va S Wn rk N0 P0 g3 g4 g7 g8 g10 g11 g12 g13 g14) {B : Nat → Nat} {g cap : Nat} {fa fb : Bool} (hB : InS C.nb B (fun j => j == a)) (h : St C b wa (NN N0 P0 a) (PP N0 P0 a) S Wn (bump (-1) (Wn a) (fun v : Nat => cnt Wn (fun _ => false) C.n v)) (bump (-1) (S a) (fun v : Nat => cnt S (fun _ => false) C.n v)) B (firstA a) (a : Int) va (.slice (some ⟨g, 0, none⟩) 1 cap) 1 (pl (a : Int) v0 (-1) 0 fa)) : Code.wp Tryd.prog (TAIL Tryd.f3 37) (bodyPost Tryd.prog Tryd.f3 (Good w0)) ⟨#[u0, u1, u2, u3, .int .i64 (a : Int), .int .i64 (c : Int), .int .i64 v0, .int .i64 va, u8, .bool fa, .bool fb, u11, u12, u13, u14, u15, u16, u17, u18, u19, u20, u21, u22, u23, u24, .slice (some ⟨g3, 0, none⟩) C.h C.h, .slice (some ⟨g4, 0, none⟩) C.h C.h, u27, u28, .slice (some ⟨g7, 0, none⟩) C.h C.h, .slice (some ⟨g8, 0, none⟩) C.h C.h, u31, .slice (some ⟨g10, 0, none⟩) C.n C.n, .slice (some ⟨g11, 0, none⟩) C.m C.m, .slice (some ⟨g12, 0, none⟩) C.m C.m, .slice (some ⟨g13, 0, none⟩) C.m C.m, .slice (some ⟨g14, 0, none⟩) C.m C.m, .pointer (some ⟨b, 0, none⟩), .int .i32 (c : Int), .int .i32 va, .int .i32 (-1), .int .i32 0, .bool fb, u43, u44, u45, u46, u47, u48, u49, u50, u51, u52, u53, u54, u55, u56, u57, u58, u59, u60, u61, u62, u63, u64, u65, u66, u67, u68, u69, u70, u71, u72, u73, u74, u75, u76, u77, u78, u79, u80, u81, u82, u83, u84, u85, u86, u87, u88, u89, u90, u91, u92, u93, u94, u95, u96, u97, u98, u99, u100, u101, u102, u103, u104, u105, u106, u107, u108, u109, u110, u111, u112, u113, u114, u115, u116, u117, u118, u119, u120, u121, u122, u123, u124, u125, u126, u127, u128, u129, u130, u131, u132, u133, u134, u135, u136, u137, u138, u139, u140, u141, u142, u143, u144, u145, u146, u147, u148, u149, u150, u151, u152, u153, u154, u155, u156, u157, u158, u159, u160, u161, u162, u163, u164, u165, u166, u167, u168, u169, u170, u171, u172, u173, u174, u175, u176, u177, u178, u179, u180, u181, u182, u183, u184, u185, u186, u187, u188, u189, u190, u191, u192, u193, u194, u195, u196, u197, u198, u199, u200, u201, u202, u203, u204, u205, u206, u207, u208, u209, u210, u211, u212, u213, u214, u215, u216, u217, u218, u219, u220, u221, u222, u223, u224, u225, u226, u227, u228, u229, u230, u231, u232, u233, u234, u235, u236, u237, u238, u239, u240, u241, u242, u243, u244, u245, u246, u247, u248, u249, u250, u251, u252, u253, u254, u255, u256, u257, u258, u259, u260, u261, u262, u263, u264, u265, u266, u267, u268, u269, u270, u271, u272, u273, u274, u275, u276, u277, u278, u279, u280, u281, u282, u283, u284, u285, u286, u287, u288, u289, u290, u291, u292, u293, u294, u295, u296, u297, u298, u299, u300, u301, u302, u303, u304, u305, u306, u307, u308, u309, u310, u311, u312, u313, u314, u315, u316, u317, u318, u319, u320, u321, u322, u323, u324, u325, u326, u327, u328, u329, u330, u331, u332, u333, u334, u335, u336, u337, u338, u339, u340, u341, u342, u343, u344, u345, u346, u347, u348, u349, u350, u351, u352, u353, u354, u355, u356, u357, u358, u359, u360, u361, u362, u363, u364, u365, u366, u367, u368, u369, u370, u371, u372, u373, u374, u375, u376, u377, u378, u379, u380, u381, u382, u383, u384, u385, u386, u387, u388, u389, u390, u391, u392, u393, u394, u395, u396, u397, u398, u399, u400, u401, u402, u403, u404, u405, u406, u407, u408, u409, u410, u411, u412, u413, u414, u415, u416, u417, u418, u419, u420, u421, u422, u423, u424, u425, u426, u427, u428, u429, u430, u431, u432, u433, u434, u435, u436, u437, u438, u439, u440, u441, u442, u443, u444, u445, u446, u447, u448], []⟩ wa := by
  have H := hid h
  have HF := hid F
  obtain ⟨f1, f2⟩ := F.v0
  obtain ⟨f1', f2'⟩ := F.va
  have f3 := F.ha
  have f3' := F.hc
  have f4 := F.n3
  clear h F
  have HB := hid hB
  clear hB
  rw [show TAIL Tryd.f3 37 = .seq (headS (TAIL Tryd.f3 37)) (TAIL Tryd.f3 38) from rfl]
  conv => arg 2; arg 1; whnf
  go_wp2_with fail
  rw [show TAIL Tryd.f3 38 = .seq (headS (TAIL Tryd.f3 38)) (TAIL Tryd.f3 39) from rfl]
  conv => arg 2; arg 1; whnf
  go_wp2_with fail
  refine (value_any H.out).mono ?_
  rintro e w' ⟨rfl, rfl⟩
  go_wp2_with fail
  refine (stacklen_any H.out).mono ?_
  rintro e w' ⟨rfl, rfl⟩
  go_wp2_with fail
  rw [show TAIL Tryd.f3 39 = .seq (headS (TAIL Tryd.f3 39)) (TAIL Tryd.f3 40) from rfl]
  conv => arg 2; arg 1; whnf
  go_wp2_with fail
  refine (links_any H.out).mono ?_
  rintro e w' ⟨rfl, q, rfl⟩
  replace H := hid (H.out.drewN q)
  generalize World.drewN _ q = wb at *
  go_wp2_with fail
  rw [show TAIL Tryd.f3 40 = .seq (headS (TAIL Tryd.f3 40)) (TAIL Tryd.f3 41) from rfl]
  conv => arg 2; arg 1; whnf
  go_wp2_with fail
  refine (equal_any C.gn g7 C.h _ _ _ (by have := HF.out.n3; have := HF.out.m1; have := HF.out.hh; omega) H.out.n (World.rowIs.of_block HF.out.r7 (HF.out.kept H.out.kp (by simp))) (fun _ _ => rfl)).mono ?_
  rintro e w' ⟨rfl, q2, rfl⟩
  replace H := hid (H.out.drewN q2)
  generalize World.drewN _ q2 = wb at *
  go_wp2_with fail
  refine (equal_any C.gp g8 C.h _ _ _ (by have := HF.out.n3; have := HF.out.m1; have := HF.out.hh; omega) H.out.p (World.rowIs.of_block HF.out.r8 (HF.out.kept H.out.kp (by simp))) (fun _ _ => rfl)).mono ?_
  rintro e w' ⟨rfl, q2, rfl⟩
  replace H := hid (H.out.drewN q2)
  generalize World.drewN _ q2 = wb at *
  go_wp2_with fail
  rw [show TAIL Tryd.f3 41 = .seq (headS (TAIL Tryd.f3 41)) (TAIL Tryd.f3 42) from rfl]
  conv => arg 2; arg 1; whnf
  go_wp2_with fail
  refine (counts_any H.out).mono ?_
  rintro e w' ⟨rfl, q, rfl⟩
  replace H := hid (H.out.drewN q)
  generalize World.drewN _ q = wb at *
  go_wp2_with fail
  rw [show TAIL Tryd.f3 42 = .seq (headS (TAIL Tryd.f3 42)) (TAIL Tryd.f3 43) from rfl]
  conv => arg 2; arg 1; whnf
  go_wp2_with fail
  refine (equal_any C.gw g13 C.m _ _ _ (by have := HF.out.n3; have := HF.out.m1; have := HF.out.hh; omega) H.out.wt (World.rowIs.of_block HF.out.r13 (HF.out.kept H.out.kp (by simp))) (fun v _ => bump_cnt Wn a C.n HF.out.ha v)).mono ?_
  rintro e w' ⟨rfl, q2, rfl⟩
  replace H := hid (H.out.drewN q2)
  generalize World.drewN _ q2 = wb at *
  go_wp2_with fail
  refine (equal_any C.gt g14 C.m _ _ _ (by have := HF.out.n3; have := HF.out.m1; have := HF.out.hh; omega) H.out.tt (World.rowIs.of_block HF.out.r14 (HF.out.kept H.out.kp (by simp))) (fun v _ => bump_cnt S a C.n HF.out.ha v)).mono ?_
  rintro e w' ⟨rfl, q2, rfl⟩
  replace H := hid (H.out.drewN q2)
  generalize World.drewN _ q2 = wb at *
  go_wp2_with fail
  rw [show TAIL Tryd.f3 43 = .seq (headS (TAIL Tryd.f3 43)) (TAIL Tryd.f3 44) from rfl]
  conv => arg 2; arg 1; whnf
  go_wp2_with fail
  refine (ends_any H.out).mono ?_
  rintro e w' ⟨rfl, q, rfl⟩
  replace H := hid (H.out.drewN q)
  generalize World.drewN _ q = wb at *
  go_wp2_with fail
  rw [show TAIL Tryd.f3 44 = .seq (headS (TAIL Tryd.f3 44)) (TAIL Tryd.f3 45) from rfl]
  conv => arg 2; arg 1; whnf
  go_wp2_with fail
  have hlow : Calls Tryd.prog 25 #[.slice (some ⟨g10, 0, none⟩) C.n C.n] wb fun e w' => e = .returned (.int .i64 (firstA a)) ∧ w' = wb := lowest_any g10 C.n a wb (by have := HF.out.n3; omega) HF.out.n2 (World.rowIs.of_block HF.out.r10 (HF.out.kept H.out.kp (by simp)))
  refine hlow.mono ?_
  rintro e w' ⟨rfl, rfl⟩
  clear hlow
  go_wp2_with fail
  refine (highest_any g10 C.n a w' (by have := HF.out.n3; omega) HF.out.ha (World.rowIs.of_block HF.out.r10 (HF.out.kept H.out.kp (by simp)))).mono ?_
  rintro e w'' ⟨rfl, rfl⟩
  go_wp2_with fail
  exact t45 HF.out HB.out H.out

set_option maxRecDepth 1000000 in
set_option maxHeartbeats 4000000 in
theorem t36 {u0 u1 u2 u3 u8 u11 u12 u13 u14 u15 u16 u17 u18 u19 u20 u21 u22 u23 u24 u27 u28 u31 u38 u39 u40 u41 u42 u43 u44 u45 u46 u47 u48 u49 u50 u51 u52 u53 u54 u55 u56 u57 u58 u59 u60 u61 u62 u63 u64 u65 u66 u67 u68 u69 u70 u71 u72 u73 u74 u75 u76 u77 u78 u79 u80 u81 u82 u83 u84 u85 u86 u87 u88 u89 u90 u91 u92 u93 u94 u95 u96 u97 u98 u99 u100 u101 u102 u103 u104 u105 u106 u107 u108 u109 u110 u111 u112 u113 u114 u115 u116 u117 u118 u119 u120 u121 u122 u123 u124 u125 u126 u127 u128 u129 u130 u131 u132 u133 u134 u135 u136 u137 u138 u139 u140 u141 u142 u143 u144 u145 u146 u147 u148 u149 u150 u151 u152 u153 u154 u155 u156 u157 u158 u159 u160 u161 u162 u163 u164 u165 u166 u167 u168 u169 u170 u171 u172 u173 u174 u175 u176 u177 u178 u179 u180 u181 u182 u183 u184 u185 u186 u187 u188 u189 u190 u191 u192 u193 u194 u195 u196 u197 u198 u199 u200 u201 u202 u203 u204 u205 u206 u207 u208 u209 u210 u211 u212 u213 u214 u215 u216 u217 u218 u219 u220 u221 u222 u223 u224 u225 u226 u227 u228 u229 u230 u231 u232 u233 u234 u235 u236 u237 u238 u239 u240 u241 u242 u243 u244 u245 u246 u247 u248 u249 u250 u251 u252 u253 u254 u255 u256 u257 u258 u259 u260 u261 u262 u263 u264 u265 u266 u267 u268 u269 u270 u271 u272 u273 u274 u275 u276 u277 u278 u279 u280 u281 u282 u283 u284 u285 u286 u287 u288 u289 u290 u291 u292 u293 u294 u295 u296 u297 u298 u299 u300 u301 u302 u303 u304 u305 u306 u307 u308 u309 u310 u311 u312 u313 u314 u315 u316 u317 u318 u319 u320 u321 u322 u323 u324 u325 u326 u327 u328 u329 u330 u331 u332 u333 u334 u335 u336 u337 u338 u339 u340 u341 u342 u343 u344 u345 u346 u347 u348 u349 u350 u351 u352 u353 u354 u355 u356 u357 u358 u359 u360 u361 u362 u363 u364 u365 u366 u367 u368 u369 u370 u371 u372 u373 u374 u375 u376 u377 u378 u379 u380 u381 u382 u383 u384 u385 u386 u387 u388 u389 u390 u391 u392 u393 u394 u395 u396 u397 u398 u399 u400 u401 u402 u403 u404 u405 u406 u407 u408 u409 u410 u411 u412 u413 u414 u415 u416 u417 u418 u419 u420 u421 u422 u423 u424 u425 u426 u427 u428 u429 u430 u431 u432 u433 u434 u435 u436 u437 u438 u439 u440 u441 u442 u443 u444 u445 u446 u447 u448 : Value} (F : Fx C b w0 a c v0 va S Wn rk N0 P0 g3 g4 g7 g8 g10 g11 g12 g13 g14) {g cap : Nat} {fa fb : Bool} {f2 l2 vb : Int} (hf : (if (c : Int) < f2 then (c : Int) else f2) = firstA a) (hl : l2 = (if (a : Int) < (c : Int) then (c : Int) else (a : Int))) (h : St C b wa (NN (NN N0 P0 a) (PP N0 P0 a) c) (PP (NN N0 P0 a) (PP N0 P0 a) c) S Wn (bump (-1) (Wn c) (bump (-1) (Wn a) (fun v : Nat => cnt Wn (fun _ => false) C.n v))) (bump (-1) (S c) (bump (-1) (S a) (fun v : Nat => cnt S (fun _ => false) C.n v))) (addB (B1 a) c) f2 l2 vb (.slice (some ⟨g, 0, none⟩) 2 cap) 2 (pl (a : Int) v0 (-1) 0 fa ++ pl (c : Int) va (-1) 0 fb)) : Code.wp Tryd.prog (TAIL Tryd.f3 36) (bodyPost Tryd.prog Tryd.f3 (Good w0)) ⟨#[u0, u1, u2, u3, .int .i64 (a : Int), .int .i64 (c : Int), .int .i64 v0, .int .i64 va, u8, .bool fa, .bool fb, u11, u12, u13, u14, u15, u16, u17, u18, u19, u20, u21, u22, u23, u24, .slice (some ⟨g3, 0, none⟩) C.h C.h, .slice (some ⟨g4, 0, none⟩) C.h C.h, u27, u28, .slice (some ⟨g7, 0, none⟩) C.h C.h, .slice (some ⟨g8, 0, none⟩) C.h C.h, u31, .slice (some ⟨g10, 0, none⟩) C.n C.n, .slice (some ⟨g11, 0, none⟩) C.m C.m, .slice (some ⟨g12, 0, none⟩) C.m C.m, .slice (some ⟨g13, 0, none⟩) C.m C.m, .slice (some ⟨g14, 0, none⟩) C.m C.m, .pointer (some ⟨b, 0, none⟩), u38, u39, u40, u41, u42, u43, u44, u45, u46, u47, u48, u49, u50, u51, u52, u53, u54, u55, u56, u57, u58, u59, u60, u61, u62, u63, u64, u65, u66, u67, u68, u69, u70, u71, u72, u73, u74, u75, u76, u77, u78, u79, u80, u81, u82, u83, u84, u85, u86, u87, u88, u89, u90, u91, u92, u93, u94, u95, u96, u97, u98, u99, u100, u101, u102, u103, u104, u105, u106, u107, u108, u109, u110, u111, u112, u113, u114, u115, u116, u117, u118, u119, u120, u121, u122, u123, u124, u125, u126, u127, u128, u129, u130, u131, u132, u133, u134, u135, u136, u137, u138, u139, u140, u141, u142, u143, u144, u145, u146, u147, u148, u149, u150, u151, u152, u153, u154, u155, u156, u157, u158, u159, u160, u161, u162, u163, u164, u165, u166, u167, u168, u169, u170, u171, u172, u173, u174, u175, u176, u177, u178, u179, u180, u181, u182, u183, u184, u185, u186, u187, u188, u189, u190, u191, u192, u193, u194, u195, u196, u197, u198, u199, u200, u201, u202, u203, u204, u205, u206, u207, u208, u209, u210, u211, u212, u213, u214, u215, u216, u217, u218, u219, u220, u221, u222, u223, u224, u225, u226, u227, u228, u229, u230, u231, u232, u233, u234, u235, u236, u237, u238, u239, u240, u241, u242, u243, u244, u245, u246, u247, u248, u249, u250, u251, u252, u253, u254, u255, u256, u257, u258, u259, u260, u261, u262, u263, u264, u265, u266, u267, u268, u269, u270, u271, u272, u273, u274, u275, u276, u277, u278, u279, u280, u281, u282, u283, u284, u285, u286, u287, u288, u289, u290, u291, u292, u293, u294, u295, u296, u297, u298, u299, u300, u301, u302, u303, u304, u305, u306, u307, u308, u309, u310, u311, u312, u313, u314, u315, u316, u317, u318, u319, u320, u321, u322, u323, u324, u325, u326, u327, u328, u329, u330, u331, u332, u333, u334, u335, u336, u337, u338, u339, u340, u341, u342, u343, u344, u345, u346, u347, u348, u349, u350, u351, u352, u353, u354, u355, u356, u357, u358, u359, u360, u361, u362, u363, u364, u365, u366, u367, u368, u369, u370, u371, u372, u373, u374, u375, u376, u377, u378, u379, u380, u381, u382, u383, u384, u385, u386, u387, u388, u389, u390, u391, u392, u393, u394, u395, u396, u397, u398, u399, u400, u401, u402, u403, u404, u405, u406, u407, u408, u409, u410, u411, u412, u413, u414, u415, u416, u417, u418, u419, u420, u421, u422, u423, u424, u425, u426, u427, u428, u429, u430, u431, u432, u433, u434, u435, u436, u437, u438, u439, u440, u441, u442, u443, u444, u445, u446, u447, u448], []⟩ wa := by
  have H := hid (unplaceB F hf hl h)
  have HF := hid F
  clear h F hf hl
  rw [show TAIL Tryd.f3 36 = .seq (headS (TAIL Tryd.f3 36)) (TAIL Tryd.f3 37) from rfl]
  conv => arg 2; arg 1; whnf
  go_wp2_with fail
  refine H.out.mono ?_
  rintro e w' ⟨rfl, h8⟩
  have H8 := hid h8
  clear h8 H
  dsimp only [pl]
  go_wp2_with fail
  exact t37 HF.out (inBack C.nb a c HF.out.hac) H8.out

set_option maxRecDepth 1000000 in
set_option maxHeartbeats 4000000 in
theorem t30 {u0 u1 u2 u3 u8 u11 u12 u13 u14 u15 u16 u17 u18 u19 u20 u21 u22 u23 u24 u27 u28 u31 u38 u39 u40 u41 u42 u43 u44 u45 u46 u47 u48 u49 u50 u51 u52 u53 u54 u55 u56 u57 u58 u59 u60 u61 u62 u63 u64 u65 u66 u67 u68 u69 u70 u71 u72 u73 u74 u75 u76 u77 u78 u79 u80 u81 u82 u83 u84 u85 u86 u87 u88 u89 u90 u91 u92 u93 u94 u95 u96 u97 u98 u99 u100 u101 u102 u103 u104 u105 u106 u107 u108 u109 u110 u111 u112 u113 u114 u115 u116 u117 u118 u119 u120 u121 u122 u123 u124 u125 u126 u127 u128 u129 u130 u131 u132 u133 u134 u135 u136 u137 u138 u139 u140 u141 u142 u143 u144 u145 u146 u147 u148 u149 u150 u151 u152 u153 u154 u155 u156 u157 u158 u159 u160 u161 u162 u163 u164 u165 u166 u167 u168 u169 u170 u171 u172 u173 u174 u175 u176 u177 u178 u179 u180 u181 u182 u183 u184 u185 u186 u187 u188 u189 u190 u191 u192 u193 u194 u195 u196 u197 u198 u199 u200 u201 u202 u203 u204 u205 u206 u207 u208 u209 u210 u211 u212 u213 u214 u215 u216 u217 u218 u219 u220 u221 u222 u223 u224 u225 u226 u227 u228 u229 u230 u231 u232 u233 u234 u235 u236 u237 u238 u239 u240 u241 u242 u243 u244 u245 u246 u247 u248 u249 u250 u251 u252 u253 u254 u255 u256 u257 u258 u259 u260 u261 u262 u263 u264 u265 u266 u267 u268 u269 u270 u271 u272 u273 u274 u275 u276 u277 u278 u279 u280 u281 u282 u283 u284 u285 u286 u287 u288 u289 u290 u291 u292 u293 u294 u295 u296 u297 u298 u299 u300 u301 u302 u303 u304 u305 u306 u307 u308 u309 u310 u311 u312 u313 u314 u315 u316 u317 u318 u319 u320 u321 u322 u323 u324 u325 u326 u327 u328 u329 u330 u331 u332 u333 u334 u335 u336 u337 u338 u339 u340 u341 u342 u343 u344 u345 u346 u347 u348 u349 u350 u351 u352 u353 u354 u355 u356 u357 u358 u359 u360 u361 u362 u363 u364 u365 u366 u367 u368 u369 u370 u371 u372 u373 u374 u375 u376 u377 u378 u379 u380 u381 u382 u383 u384 u385 u386 u387 u388 u389 u390 u391 u392 u393 u394 u395 u396 u397 u398 u399 u400 u401 u402 u403 u404 u405 u406 u407 u408 u409 u410 u411 u412 u413 u414 u415 u416 u417 u418 u419 u420 u421 u422 u423 u424 u425 u426 u427 u428 u429 u430 u431 u432 u433 u434 u435 u436 u437 u438 u439 u440 u441 u442 u443 u444 u445 u446 u447 u448 : Value} (F : Fx C b w0 a c v0 va S Wn rk N0 P0 g3 g4 g7 g8 g10 g11 g12 g13 g14) {fa fb : Bool} {vb : Int} (h : St C b wa (NN (NN N0 P0 a) (PP N0 P0 a) c) (PP (NN N0 P0 a) (PP N0 P0 a) c) S Wn (fun v : Nat => cnt Wn (fun _ => false) C.n v) (fun v : Nat => cnt S (fun _ => false) C.n v) (fun _ => 0) 0 (-1) vb (.slice none 0 0) 0 []) : Code.wp Tryd.prog (TAIL Tryd.f3 30) (bodyPost Tryd.prog Tryd.f3 (Good w0)) ⟨#[u0, u1, u2, u3, .int .i64 (a : Int), .int .i64 (c : Int), .int .i64 v0, .int .i64 va, u8, .bool fa, .bool fb, u11, u12, u13, u14, u15, u16, u17, u18, u19, u20, u21, u22, u23, u24, .slice (some ⟨g3, 0, none⟩) C.h C.h, .slice (some ⟨g4, 0, none⟩) C.h C.h, u27, u28, .slice (some ⟨g7, 0, none⟩) C.h C.h, .slice (some ⟨g8, 0, none⟩) C.h C.h, u31, .slice (some ⟨g10, 0, none⟩) C.n C.n, .slice (some ⟨g11, 0, none⟩) C.m C.m, .slice (some ⟨g12, 0, none⟩) C.m C.m, .slice (some ⟨g13, 0, none⟩) C.m C.m, .slice (some ⟨g14, 0, none⟩) C.m C.m, .pointer (some ⟨b, 0, none⟩), u38, u39, u40, u41, u42, u43, u44, u45, u46, u47, u48, u49, u50, u51, u52, u53, u54, u55, u56, u57, u58, u59, u60, u61, u62, u63, u64, u65, u66, u67, u68, u69, u70, u71, u72, u73, u74, u75, u76, u77, u78, u79, u80, u81, u82, u83, u84, u85, u86, u87, u88, u89, u90, u91, u92, u93, u94, u95, u96, u97, u98, u99, u100, u101, u102, u103, u104, u105, u106, u107, u108, u109, u110, u111, u112, u113, u114, u115, u116, u117, u118, u119, u120, u121, u122, u123, u124, u125, u126, u127, u128, u129, u130, u131, u132, u133, u134, u135, u136, u137, u138, u139, u140, u141, u142, u143, u144, u145, u146, u147, u148, u149, u150, u151, u152, u153, u154, u155, u156, u157, u158, u159, u160, u161, u162, u163, u164, u165, u166, u167, u168, u169, u170, u171, u172, u173, u174, u175, u176, u177, u178, u179, u180, u181, u182, u183, u184, u185, u186, u187, u188, u189, u190, u191, u192, u193, u194, u195, u196, u197, u198, u199, u200, u201, u202, u203, u204, u205, u206, u207, u208, u209, u210, u211, u212, u213, u214, u215, u216, u217, u218, u219, u220, u221, u222, u223, u224, u225, u226, u227, u228, u229, u230, u231, u232, u233, u234, u235, u236, u237, u238, u239, u240, u241, u242, u243, u244, u245, u246, u247, u248, u249, u250, u251, u252, u253, u254, u255, u256, u257, u258, u259, u260, u261, u262, u263, u264, u265, u266, u267, u268, u269, u270, u271, u272, u273, u274, u275, u276, u277, u278, u279, u280, u281, u282, u283, u284, u285, u286, u287, u288, u289, u290, u291, u292, u293, u294, u295, u296, u297, u298, u299, u300, u301, u302, u303, u304, u305, u306, u307, u308, u309, u310, u311, u312, u313, u314, u315, u316, u317, u318, u319, u320, u321, u322, u323, u324, u325, u326, u327, u328, u329, u330, u331, u332, u333, u334, u335, u336, u337, u338, u339, u340, u341, u342, u343, u344, u345, u346, u347, u348, u349, u350, u351, u352, u353, u354, u355, u356, u357, u358, u359, u360, u361, u362, u363, u364, u365, u366, u367, u368, u369, u370, u371, u372, u373, u374, u375, u376, u377, u378, u379, u380, u381, u382, u383, u384, u385, u386, u387, u388, u389, u390, u391, u392, u393, u394, u395, u396, u397, u398, u399, u400, u401, u402, u403, u404, u405, u406, u407, u408, u409, u410, u411, u412, u413, u414, u415, u416, u417, u418, u419, u420, u421, u422, u423, u424, u425, u426, u427, u428, u429, u430, u431, u432, u433, u434, u435, u436, u437, u438, u439, u440, u441, u442, u443, u444, u445, u446, u447, u448], []⟩ wa := by
  have H := hid h
  have HF := hid F
  obtain ⟨f1, f2⟩ := F.v0
  obtain ⟨f1', f2'⟩ := F.va
  have f3 := F.ha
  have f3' := F.hc
  have f4 := F.n3
  clear h F
  rw [show TAIL Tryd.f3 30 = .seq (headS (TAIL Tryd.f3 30)) (TAIL Tryd.f3 31) from rfl]
  conv => arg 2; arg 1; whnf
  go_wp2_with fail
  refine (zcount a (-1) (count_any a (-1) HF.out.ha (by have := HF.out.n3; omega) (by have := HF.out.m1; omega) (by omega) (HF.out.bW a HF.out.ha) (HF.out.bS a HF.out.ha) (cnt_b2 Wn C.n HF.out.n3) (cnt_b2 S C.n HF.out.n3) H.out)).mono ?_
  rintro e w1 ⟨rfl, h1⟩
  replace H := hid h1
  clear h1
  go_wp2_with fail
  rw [show TAIL Tryd.f3 31 = .seq (headS (TAIL Tryd.f3 31)) (TAIL Tryd.f3 32) from rfl]
  conv => arg 2; arg 1; whnf
  go_wp2_with fail
  refine (zmark a true (mark_true a HF.out.ha (by have := HF.out.n3; omega) H.out (add_first a HF.out.ha HF.out.n2 (by have := HF.out.n3; omega) HF.out.nb HF.out.nb2 H.out))).mono ?_
  rintro e w2 ⟨rfl, h1⟩
  replace H := hid h1
  clear h1
  go_wp2_with fail
  rw [show TAIL Tryd.f3 32 = .seq (headS (TAIL Tryd.f3 32)) (TAIL Tryd.f3 33) from rfl]
  conv => arg 2; arg 1; whnf
  go_wp2_with fail
  refine (push_any (a : Int) v0 (-1) 0 fa (by decide) (by rw [HF.out.lim]; exact Nat.le_refl _) H.out).mono ?_
  rintro e w3 ⟨rfl, g5, cap5, h1⟩
  replace H := hid h1
  clear h1
  go_wp2_with fail
  rw [show TAIL Tryd.f3 33 = .seq (headS (TAIL Tryd.f3 33)) (TAIL Tryd.f3 34) from rfl]
  conv => arg 2; arg 1; whnf
  go_wp2_with fail
  refine (zcount c (-1) (count_any c (-1) HF.out.hc (by have := HF.out.n3; omega) (by have := HF.out.m1; omega) (by omega) (HF.out.bW c HF.out.hc) (HF.out.bS c HF.out.hc) (fun j => by have := bump_bound (d := -1) (f := Wn a) (by omega) (cnt_b Wn C.n HF.out.n3) j; omega) (fun j => by have := bump_bound (d := -1) (f := S a) (by omega) (cnt_b S C.n HF.out.n3) j; omega) H.out)).mono ?_
  rintro e w4 ⟨rfl, h1⟩
  replace H := hid h1
  clear h1
  go_wp2_with fail
  rw [show TAIL Tryd.f3 34 = .seq (headS (TAIL Tryd.f3 34)) (TAIL Tryd.f3 35) from rfl]
  conv => arg 2; arg 1; whnf
  go_wp2_with fail
  obtain ⟨x2, l2, hf, hl, hcall⟩ := add_second a c HF.out.hac HF.out.ha HF.out.hc (by have := HF.out.n3; omega) HF.out.nb HF.out.nb2 H.out
  have HX := hid (And.intro hf hl)
  clear hf hl
  refine (zmark c true (mark_true c HF.out.hc (by have := HF.out.n3; omega) H.out hcall)).mono ?_
  rintro e w5 ⟨rfl, h1⟩
  replace H := hid h1
  clear h1 hcall
  go_wp2_with fail
  rw [show TAIL Tryd.f3 35 = .seq (headS (TAIL Tryd.f3 35)) (TAIL Tryd.f3 36) from rfl]
  conv => arg 2; arg 1; whnf
  go_wp2_with fail
  refine (push_any (c : Int) va (-1) 0 fb (by decide) (by rw [HF.out.lim]; exact Nat.le_refl _) H.out).mono ?_
  rintro e w6 ⟨rfl, g6, cap6, h1⟩
  replace H := hid h1
  clear h1
  go_wp2_with fail
  exact t36 HF.out HX.out.1 HX.out.2 H.out

end Go.Proofs.Qxb6614338aDoor
