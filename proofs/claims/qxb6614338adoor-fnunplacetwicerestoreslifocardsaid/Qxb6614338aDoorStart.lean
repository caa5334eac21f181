import Derived.Test.Qxb6614338aDoorFirst
import Derived.BigGuardPart
namespace Go.Proofs.Qxb6614338aDoor
open Go.RowKit
variable {w0 wa : World} {s n : Nat} {m a c v0 va vb : Int} {Z0 S Wn : Nat → Int}

theorem rowNat {w : World} {a : Option Addr} {l : Nat} {Z : Nat → Int} (h : RowI w a l Z) (hz : ∀ j, j < l → 0 ≤ Z j) : RowI w a l (fun i => (((Z i).toNat : Nat) : Int)) := fun i hi => by
  obtain ⟨b, o, e, hc⟩ := h i hi
  refine ⟨b, o, e, ?_⟩
  dsimp only
  rw [hc, Int.toNat_of_nonneg (hz i hi)]

set_option maxRecDepth 1000000 in
set_option maxHeartbeats 4000000 in
theorem t1 {u11 u12 u13 u14 u15 u16 u17 u18 u19 u20 u21 u22 u23 u24 u25 u26 u27 u28 u29 u30 u31 u32 u33 u34 u35 u36 u37 u38 u39 u40 u41 u42 u43 u44 u45 u46 u47 u48 u49 u50 u51 u52 u53 u54 u55 u56 u57 u58 u59 u60 u61 u62 u63 u64 u65 u66 u67 u68 u69 u70 u71 u72 u73 u74 u75 u76 u77 u78 u79 u80 u81 u82 u83 u84 u85 u86 u87 u88 u89 u90 u91 u92 u93 u94 u95 u96 u97 u98 u99 u100 u101 u102 u103 u104 u105 u106 u107 u108 u109 u110 u111 u112 u113 u114 u115 u116 u117 u118 u119 u120 u121 u122 u123 u124 u125 u126 u127 u128 u129 u130 u131 u132 u133 u134 u135 u136 u137 u138 u139 u140 u141 u142 u143 u144 u145 u146 u147 u148 u149 u150 u151 u152 u153 u154 u155 u156 u157 u158 u159 u160 u161 u162 u163 u164 u165 u166 u167 u168 u169 u170 u171 u172 u173 u174 u175 u176 u177 u178 u179 u180 u181 u182 u183 u184 u185 u186 u187 u188 u189 u190 u191 u192 u193 u194 u195 u196 u197 u198 u199 u200 u201 u202 u203 u204 u205 u206 u207 u208 u209 u210 u211 u212 u213 u214 u215 u216 u217 u218 u219 u220 u221 u222 u223 u224 u225 u226 u227 u228 u229 u230 u231 u232 u233 u234 u235 u236 u237 u238 u239 u240 u241 u242 u243 u244 u245 u246 u247 u248 u249 u250 u251 u252 u253 u254 u255 u256 u257 u258 u259 u260 u261 u262 u263 u264 u265 u266 u267 u268 u269 u270 u271 u272 u273 u274 u275 u276 u277 u278 u279 u280 u281 u282 u283 u284 u285 u286 u287 u288 u289 u290 u291 u292 u293 u294 u295 u296 u297 u298 u299 u300 u301 u302 u303 u304 u305 u306 u307 u308 u309 u310 u311 u312 u313 u314 u315 u316 u317 u318 u319 u320 u321 u322 u323 u324 u325 u326 u327 u328 u329 u330 u331 u332 u333 u334 u335 u336 u337 u338 u339 u340 u341 u342 u343 u344 u345 u346 u347 u348 u349 u350 u351 u352 u353 u354 u355 u356 u357 u358 u359 u360 u361 u362 u363 u364 u365 u366 u367 u368 u369 u370 u371 u372 u373 u374 u375 u376 u377 u378 u379 u380 u381 u382 u383 u384 u385 u386 u387 u388 u389 u390 u391 u392 u393 u394 u395 u396 u397 u398 u399 u400 u401 u402 u403 u404 u405 u406 u407 u408 u409 u410 u411 u412 u413 u414 u415 u416 u417 u418 u419 u420 u421 u422 u423 u424 u425 u426 u427 u428 u429 u430 u431 u432 u433 u434 u435 u436 u437 u438 u439 u440 u441 u442 u443 u444 u445 u446 u447 u448 : Value} (hb : Below w0.heap.size w0 wa) (tb : Tab wa) {a0 a1 a2 : Option Addr} {l0 l1 l2 c0 c1 c2 : Nat} (m0 : l0 ≤ maxLen) (m1 : l1 ≤ maxLen) (m2 : l2 ≤ maxLen) (r0 : RowI wa a0 l0 Z0) (r1 : RowI wa a1 l1 S) (r2 : RowI wa a2 l2 Wn) {fa fb : Bool} : Code.wp Tryd.prog (TAIL Tryd.f3 1) (bodyPost Tryd.prog Tryd.f3 (Good w0)) ⟨#[.slice a0 l0 c0, .slice a1 l1 c1, .slice a2 l2 c2, .int .i64 m, .int .i64 a, .int .i64 c, .int .i64 v0, .int .i64 va, .int .i64 vb, .bool fa, .bool fb, u11, u12, u13, u14, u15, u16, u17, u18, u19, u20, u21, u22, u23, u24, u25, u26, u27, u28, u29, u30, u31, u32, u33, u34, u35, u36, u37, u38, u39, u40, u41, u42, u43, u44, u45, u46, u47, u48, u49, u50, u51, u52, u53, u54, u55, u56, u57, u58, u59, u60, u61, u62, u63, u64, u65, u66, u67, u68, u69, u70, u71, u72, u73, u74, u75, u76, u77, u78, u79, u80, u81, u82, u83, u84, u85, u86, u87, u88, u89, u90, u91, u92, u93, u94, u95, u96, u97, u98, u99, u100, u101, u102, u103, u104, u105, u106, u107, u108, u109, u110, u111, u112, u113, u114, u115, u116, u117, u118, u119, u120, u121, u122, u123, u124, u125, u126, u127, u128, u129, u130, u131, u132, u133, u134, u135, u136, u137, u138, u139, u140, u141, u142, u143, u144, u145, u146, u147, u148, u149, u150, u151, u152, u153, u154, u155, u156, u157, u158, u159, u160, u161, u162, u163, u164, u165, u166, u167, u168, u169, u170, u171, u172, u173, u174, u175, u176, u177, u178, u179, u180, u181, u182, u183, u184, u185, u186, u187, u188, u189, u190, u191, u192, u193, u194, u195, u196, u197, u198, u199, u200, u201, u202, u203, u204, u205, u206, u207, u208, u209, u210, u211, u212, u213, u214, u215, u216, u217, u218, u219, u220, u221, u222, u223, u224, u225, u226, u227, u228, u229, u230, u231, u232, u233, u234, u235, u236, u237, u238, u239, u240, u241, u242, u243, u244, u245, u246, u247, u248, u249, u250, u251, u252, u253, u254, u255, u256, u257, u258, u259, u260, u261, u262, u263, u264, u265, u266, u267, u268, u269, u270, u271, u272, u273, u274, u275, u276, u277, u278, u279, u280, u281, u282, u283, u284, u285, u286, u287, u288, u289, u290, u291, u292, u293, u294, u295, u296, u297, u298, u299, u300, u301, u302, u303, u304, u305, u306, u307, u308, u309, u310, u311, u312, u313, u314, u315, u316, u317, u318, u319, u320, u321, u322, u323, u324, u325, u326, u327, u328, u329, u330, u331, u332, u333, u334, u335, u336, u337, u338, u339, u340, u341, u342, u343, u344, u345, u346, u347, u348, u349, u350, u351, u352, u353, u354, u355, u356, u357, u358, u359, u360, u361, u362, u363, u364, u365, u366, u367, u368, u369, u370, u371, u372, u373, u374, u375, u376, u377, u378, u379, u380, u381, u382, u383, u384, u385, u386, u387, u388, u389, u390, u391, u392, u393, u394, u395, u396, u397, u398, u399, u400, u401, u402, u403, u404, u405, u406, u407, u408, u409, u410, u411, u412, u413, u414, u415, u416, u417, u418, u419, u420, u421, u422, u423, u424, u425, u426, u427, u428, u429, u430, u431, u432, u433, u434, u435, u436, u437, u438, u439, u440, u441, u442, u443, u444, u445, u446, u447, u448], []⟩ wa := by
  have HB := hid hb
  have HT := hid tb
  have R0 := hid r0
  have R1 := hid r1
  have R2 := hid r2
  have HBY := hid (bytes_any a0 a1 a2 l0 l1 l2 c0 c1 c2 m a c v0 va vb fa fb wa m0 m1 m2)
  unfold maxLen at m0 m1 m2
  clear hb tb r0 r1 r2
  rw [show TAIL Tryd.f3 1 = .seq (headS (TAIL Tryd.f3 1)) (TAIL Tryd.f3 2) from rfl]
  conv => arg 2; arg 1; whnf
  go_wp2_with fail
  refine HBY.out.mono ?_
  rintro e wb ⟨hbb, rfl⟩
  obtain ⟨bb, rfl, _⟩ := hbb
  clear HBY
  cases bb
  · go_wp2_with fail
    go_ret
    exact ⟨rfl, HB.out⟩
  go_wp2_with fail
  rw [show TAIL Tryd.f3 2 = .seq (headS (TAIL Tryd.f3 2)) (TAIL Tryd.f3 3) from rfl]
  conv => arg 2; arg 1; whnf
  go_wp2_with fail
  all_goals try (go_ret; exact ⟨rfl, HB.out⟩)
  rw [show TAIL Tryd.f3 3 = .seq (headS (TAIL Tryd.f3 3)) (TAIL Tryd.f3 4) from rfl]
  conv => arg 2; arg 1; whnf
  go_wp2_with fail
  all_goals try (go_ret; exact ⟨rfl, HB.out⟩)
  rw [show TAIL Tryd.f3 4 = .seq (headS (TAIL Tryd.f3 4)) (TAIL Tryd.f3 5) from rfl]
  conv => arg 2; arg 1; whnf
  go_wp2_with fail
  all_goals try (go_ret; exact ⟨rfl, HB.out⟩)
  rw [show TAIL Tryd.f3 5 = .seq (headS (TAIL Tryd.f3 5)) (TAIL Tryd.f3 6) from rfl]
  conv => arg 2; arg 1; whnf
  go_wp2_with fail
  refine (valid_any a0 l0 c0 Z0 _ (by omega) R0.out).mono ?_
  rintro e w1 ⟨hv, hb1⟩
  replace HB := hid (HB.out.trans (hb1.mono HB.out.size))
  replace HT := hid (HT.out.later hb1)
  replace R0 := hid (R0.out.later hb1)
  replace R1 := hid (R1.out.later hb1)
  replace R2 := hid (R2.out.later hb1)
  obtain ⟨bb, rfl, hq⟩ := hv
  clear hb1
  cases bb
  · go_wp2_with fail
    go_ret
    exact ⟨rfl, HB.out⟩
  have HQ := hid (hq rfl)
  obtain ⟨n, hn⟩ : ∃ n, l0 = 2 * n := ⟨l0 / 2, by have := HQ.out.1; omega⟩
  have HN := hid hn
  have hdiv : (l0 : Int) / 2 = (n : Int) := by omega
  have gn : n ≤ 65536 := by omega
  clear hn hq
  go_wp2_with fail
  rw [show TAIL Tryd.f3 6 = .seq (headS (TAIL Tryd.f3 6)) (TAIL Tryd.f3 7) from rfl]
  conv => arg 2; arg 1; whnf
  go_wp2_with fail
  rw [show TAIL Tryd.f3 7 = .seq (headS (TAIL Tryd.f3 7)) (TAIL Tryd.f3 8) from rfl]
  conv => arg 2; arg 1; whnf
  by_cases e1 : l1 = n
  case neg =>
    have e2 : ((l1 : Int) != (n : Int)) = true := by simp; omega
    clear e1
    go_wp2_with fail
    all_goals (go_ret; exact ⟨rfl, HB.out⟩)
  subst e1
  by_cases e1 : l2 = l1
  case neg =>
    have e2 : ((l2 : Int) != (l1 : Int)) = true := by simp; omega
    clear e1
    go_wp2_with fail
    all_goals (go_ret; exact ⟨rfl, HB.out⟩)
  subst e1
  go_wp2_with fail
  refine (refs_any a1 l2 c1 m S _ (by omega) R1.out).mono ?_
  rintro e w2 ⟨hv, rfl⟩
  obtain ⟨bb, rfl, hq⟩ := hv
  cases bb
  · go_wp2_with fail
    go_ret
    exact ⟨rfl, HB.out⟩
  have HS := hid (hq rfl)
  clear hq
  go_wp2_with fail
  refine (refs_any a2 l2 c2 m Wn _ (by omega) R2.out).mono ?_
  rintro e w3 ⟨hv, rfl⟩
  obtain ⟨bb, rfl, hq⟩ := hv
  cases bb
  · go_wp2_with fail
    go_ret
    exact ⟨rfl, HB.out⟩
  have HW := hid (hq rfl)
  clear hq
  go_wp2_with fail
  rw [show TAIL Tryd.f3 8 = .seq (headS (TAIL Tryd.f3 8)) (TAIL Tryd.f3 9) from rfl]
  conv => arg 2; arg 1; whnf
  go_wp2_with fail
  all_goals try (go_ret; exact ⟨rfl, HB.out⟩)
  rw [show TAIL Tryd.f3 9 = .seq (headS (TAIL Tryd.f3 9)) (TAIL Tryd.f3 10) from rfl]
  conv => arg 2; arg 1; whnf
  go_wp2_with fail
  all_goals try (go_ret; exact ⟨rfl, HB.out⟩)
  obtain ⟨m, rfl⟩ : ∃ m' : Nat, m = (m' : Int) := ⟨m.toNat, by omega⟩
  obtain ⟨a, rfl⟩ : ∃ m' : Nat, a = (m' : Int) := ⟨a.toNat, by omega⟩
  obtain ⟨c, rfl⟩ : ∃ m' : Nat, c = (m' : Int) := ⟨c.toNat, by omega⟩
  rename_i hac
  have hac2 : a ≠ c := fun e => by rw [e] at hac; simp at hac
  have hl0 := HN.out
  clear hdiv HN
  subst hl0
  have hs1 : 0 < w3.heap.size := World.block_lt_of_cell? w3 ⟨0, 1, none⟩ HT.out.1
  exact t10 (s := w3.heap.size) ⟨by omega, gn, by omega, by omega, by omega, by omega, hac2, by omega, by omega, HS.out, HW.out⟩ HQ.out.2.2 ⟨rfl, HB.out.size, hs1, HT.out, HB.out, fun x hx => by cases hx⟩ (rowNat R0.out fun j hj => (HQ.out.2.1 j hj).1) R1.out R2.out

set_option maxRecDepth 1000000 in
set_option maxHeartbeats 4000000 in
theorem main_any (w : World) (tb : Tab w) (a0 a1 a2 : Option Addr) (l0 l1 l2 c0 c1 c2 : Nat) (m a c v0 va vb : Int) (fa fb : Bool) (m0 : l0 ≤ maxLen) (m1 : l1 ≤ maxLen) (m2 : l2 ≤ maxLen) (Z0 S Wn : Nat → Int) (r0 : RowI w a0 l0 Z0) (r1 : RowI w a1 l1 S) (r2 : RowI w a2 l2 Wn) :
    Calls Tryd.prog 3 #[.slice a0 l0 c0, .slice a1 l1 c1, .slice a2 l2 c2, .int .i64 m, .int .i64 a, .int .i64 c, .int .i64 v0, .int .i64 va, .int .i64 vb, .bool fa, .bool fb] w fun e w' => e = .returned (.bool true) ∧ Below w.heap.size w w' := by
  have X := hid (And.intro tb (And.intro m0 (And.intro m1 (And.intro m2 (And.intro r0 (And.intro r1 r2))))))
  clear tb m0 m1 m2 r0 r1 r2
  go_enter Tryd.func3, Tryd.ntmps3
  change Code.wp Tryd.prog (TAIL Tryd.f3 0) (bodyPost Tryd.prog Tryd.f3 (Good w)) _ _
  rw [show TAIL Tryd.f3 0 = .seq (headS (TAIL Tryd.f3 0)) (TAIL Tryd.f3 1) from rfl]
  conv => arg 2; arg 1; whnf
  go_wp2_with fail
  obtain ⟨tb, m0, m1, m2, r0, r1, r2⟩ := X.out
  exact t1 (Below.refl _ _) tb m0 m1 m2 r0 r1 r2

end Go.Proofs.Qxb6614338aDoor
