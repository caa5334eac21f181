import Derived.Test.Qxb6614338aDoorFirst0
import Derived.Test.Qxb6614338aDoorMake
import Derived.BigGuardPart
namespace Go.Proofs.Qxb6614338aDoor
open Go.RowKit

/-- The numbers that the guards have let by. -/
structure Nums (n m a c : Nat) (v0 va : Int) (S Wn : Nat → Int) : Prop where
  n2 : 2 ≤ n
  n3 : n ≤ 65536
  m0 : 1 ≤ m
  m1 : m ≤ 65536
  ha : a < n
  hc : c < n
  hac : a ≠ c
  v0 : 0 ≤ v0 ∧ v0 < 65536
  va : 0 ≤ va ∧ va < 65536
  bS : ∀ i, i < n → -1 ≤ S i ∧ S i < (m : Int)
  bW : ∀ i, i < n → -1 ≤ Wn i ∧ Wn i < (m : Int)

variable {w0 wa : World} {s n m a c : Nat} {v0 va : Int} {S Wn : Nat → Int} {rk N0 P0 : Nat → Nat}

theorem only_a {w9 : World} {l : List Rw} {h : Nat} {F G : Nat → Int} (X : Sx w0 s wa 8 l) (r4 : RI wa (s + 4) h F) (r5 : RI wa (s + 5) h G) (b : Below wa.heap.size wa w9) (z : w9.heap.size = s + 10) (r8 : w9.rowIs (s + 8) 4 n (fun _ => .bool false)) (r9 : w9.rowIs (s + 8 + 1) 4 n (fun _ => .bool false)) (a : Nat) :
    Sx w0 s (w9.setCell ⟨s + 8 + 1, a, none⟩ (.bool true)) 10 (Rw.B (s + 9) n (fun i => i == a) :: Rw.B (s + 8) n (fun _ => false) :: l) ∧ RI (w9.setCell ⟨s + 8 + 1, a, none⟩ (.bool true)) (s + 4) h F ∧ RI (w9.setCell ⟨s + 8 + 1, a, none⟩ (.bool true)) (s + 5) h G := by
  have hz := X.size
  have X9 := (X.step (k' := 10) b z).cons (x := Rw.B (s + 8) n (fun _ => false)) r8
  have hX := X9.kept (T := [s + 8 + 1]) ((Kept.refl _ w9).set (a := ⟨s + 8 + 1, a, none⟩) (by simp) (.bool true)) (by simp [World.setCell]) (by intro g hg; simp at hg; omega) (by
    intro x hx
    rcases List.mem_cons.1 hx with rfl | hx
    · simp [Rw.B]
    · have := (X.all x hx).lt
      simp
      omega)
  refine ⟨hX.cons (x := Rw.B (s + 9) n (fun i => i == a)) ((r9.set a (.bool true)).congr fun i _ => ?_), RI.other (row_later r4 b) (by show s + 4 ≠ s + 8 + 1; omega) _, RI.other (row_later r5 b) (by show s + 5 ≠ s + 8 + 1; omega) _⟩
  by_cases e : i = a <;> simp [Rw.B, e]

set_option maxRecDepth 1000000 in
set_option maxHeartbeats 4000000 in
theorem t24 {u0 u11 u12 u13 u14 u15 u16 u17 u18 u19 u20 u21 u22 u24 u31 u32 u33 u34 u35 u36 u37 u38 u39 u40 u41 u42 u43 u44 u45 u46 u47 u48 u49 u50 u51 u52 u53 u54 u55 u56 u57 u58 u59 u60 u61 u62 u63 u64 u65 u66 u67 u68 u69 u70 u71 u72 u73 u74 u75 u76 u77 u78 u79 u80 u81 u82 u83 u84 u85 u86 u87 u88 u89 u90 u91 u92 u93 u94 u95 u96 u97 u98 u99 u100 u101 u102 u103 u104 u105 u106 u107 u108 u109 u110 u111 u112 u113 u114 u115 u116 u117 u118 u119 u120 u121 u122 u123 u124 u125 u126 u127 u128 u129 u130 u131 u132 u133 u134 u135 u136 u137 u138 u139 u140 u141 u142 u143 u144 u145 u146 u147 u148 u149 u150 u151 u152 u153 u154 u155 u156 u157 u158 u159 u160 u161 u162 u163 u164 u165 u166 u167 u168 u169 u170 u171 u172 u173 u174 u175 u176 u177 u178 u179 u180 u181 u182 u183 u184 u185 u186 u187 u188 u189 u190 u191 u192 u193 u194 u195 u196 u197 u198 u199 u200 u201 u202 u203 u204 u205 u206 u207 u208 u209 u210 u211 u212 u213 u214 u215 u216 u217 u218 u219 u220 u221 u222 u223 u224 u225 u226 u227 u228 u229 u230 u231 u232 u233 u234 u235 u236 u237 u238 u239 u240 u241 u242 u243 u244 u245 u246 u247 u248 u249 u250 u251 u252 u253 u254 u255 u256 u257 u258 u259 u260 u261 u262 u263 u264 u265 u266 u267 u268 u269 u270 u271 u272 u273 u274 u275 u276 u277 u278 u279 u280 u281 u282 u283 u284 u285 u286 u287 u288 u289 u290 u291 u292 u293 u294 u295 u296 u297 u298 u299 u300 u301 u302 u303 u304 u305 u306 u307 u308 u309 u310 u311 u312 u313 u314 u315 u316 u317 u318 u319 u320 u321 u322 u323 u324 u325 u326 u327 u328 u329 u330 u331 u332 u333 u334 u335 u336 u337 u338 u339 u340 u341 u342 u343 u344 u345 u346 u347 u348 u349 u350 u351 u352 u353 u354 u355 u356 u357 u358 u359 u360 u361 u362 u363 u364 u365 u366 u367 u368 u369 u370 u371 u372 u373 u374 u375 u376 u377 u378 u379 u380 u381 u382 u383 u384 u385 u386 u387 u388 u389 u390 u391 u392 u393 u394 u395 u396 u397 u398 u399 u400 u401 u402 u403 u404 u405 u406 u407 u408 u409 u410 u411 u412 u413 u414 u415 u416 u417 u418 u419 u420 u421 u422 u423 u424 u425 u426 u427 u428 u429 u430 u431 u432 u433 u434 u435 u436 u437 u438 u439 u440 u441 u442 u443 u444 u445 u446 u447 u448 : Value} (q : Nums n m a c v0 va S Wn) (lk : Lk (2 * n) rk (fun _ => False) N0 P0) (X : Sx w0 s wa 8 [Rw.I (s + 7) (2 * n + 1) (fun i => ((PP N0 P0 a) i : Int)), Rw.I (s + 6) (2 * n + 1) (fun i => ((NN N0 P0 a) i : Int)), Rw.I (s + 3) (2 * n + 1) (fun i => (P0 i : Int)), Rw.I (s + 2) (2 * n + 1) (fun i => (N0 i : Int)), Rw.I (s + 1) n Wn, Rw.I s n S]) (r4 : RI wa (s + 4) (2 * n + 1) (fun i => ((NN (NN N0 P0 a) (PP N0 P0 a) c) i : Int))) (r5 : RI wa (s + 5) (2 * n + 1) (fun i => ((PP (NN N0 P0 a) (PP N0 P0 a) c) i : Int))) {fa fb : Bool} {vb : Int} : Code.wp Tryd.prog (TAIL Tryd.f3 24) (bodyPost Tryd.prog Tryd.f3 (Good w0)) ⟨#[u0, .slice (some ⟨s, 0, none⟩) n n, .slice (some ⟨s + 1, 0, none⟩) n n, .int .i64 (m : Int), .int .i64 (a : Int), .int .i64 (c : Int), .int .i64 v0, .int .i64 va, .int .i64 vb, .bool fa, .bool fb, u11, u12, u13, u14, u15, u16, u17, u18, u19, u20, u21, u22, .int .i64 (n : Int), u24, .slice (some ⟨s + 2, 0, none⟩) (2 * n + 1) (2 * n + 1), .slice (some ⟨s + 3, 0, none⟩) (2 * n + 1) (2 * n + 1), .slice (some ⟨s + 4, 0, none⟩) (2 * n + 1) (2 * n + 1), .slice (some ⟨s + 5, 0, none⟩) (2 * n + 1) (2 * n + 1), .slice (some ⟨s + 6, 0, none⟩) (2 * n + 1) (2 * n + 1), .slice (some ⟨s + 7, 0, none⟩) (2 * n + 1) (2 * n + 1), u31, u32, u33, u34, u35, u36, u37, u38, u39, u40, u41, u42, u43, u44, u45, u46, u47, u48, u49, u50, u51, u52, u53, u54, u55, u56, u57, u58, u59, u60, u61, u62, u63, u64, u65, u66, u67, u68, u69, u70, u71, u72, u73, u74, u75, u76, u77, u78, u79, u80, u81, u82, u83, u84, u85, u86, u87, u88, u89, u90, u91, u92, u93, u94, u95, u96, u97, u98, u99, u100, u101, u102, u103, u104, u105, u106, u107, u108, u109, u110, u111, u112, u113, u114, u115, u116, u117, u118, u119, u120, u121, u122, u123, u124, u125, u126, u127, u128, u129, u130, u131, u132, u133, u134, u135, u136, u137, u138, u139, u140, u141, u142, u143, u144, u145, u146, u147, u148, u149, u150, u151, u152, u153, u154, u155, u156, u157, u158, u159, u160, u161, u162, u163, u164, u165, u166, u167, u168, u169, u170, u171, u172, u173, u174, u175, u176, u177, u178, u179, u180, u181, u182, u183, u184, u185, u186, u187, u188, u189, u190, u191, u192, u193, u194, u195, u196, u197, u198, u199, u200, u201, u202, u203, u204, u205, u206, u207, u208, u209, u210, u211, u212, u213, u214, u215, u216, u217, u218, u219, u220, u221, u222, u223, u224, u225, u226, u227, u228, u229, u230, u231, u232, u233, u234, u235, u236, u237, u238, u239, u240, u241, u242, u243, u244, u245, u246, u247, u248, u249, u250, u251, u252, u253, u254, u255, u256, u257, u258, u259, u260, u261, u262, u263, u264, u265, u266, u267, u268, u269, u270, u271, u272, u273, u274, u275, u276, u277, u278, u279, u280, u281, u282, u283, u284, u285, u286, u287, u288, u289, u290, u291, u292, u293, u294, u295, u296, u297, u298, u299, u300, u301, u302, u303, u304, u305, u306, u307, u308, u309, u310, u311, u312, u313, u314, u315, u316, u317, u318, u319, u320, u321, u322, u323, u324, u325, u326, u327, u328, u329, u330, u331, u332, u333, u334, u335, u336, u337, u338, u339, u340, u341, u342, u343, u344, u345, u346, u347, u348, u349, u350, u351, u352, u353, u354, u355, u356, u357, u358, u359, u360, u361, u362, u363, u364, u365, u366, u367, u368, u369, u370, u371, u372, u373, u374, u375, u376, u377, u378, u379, u380, u381, u382, u383, u384, u385, u386, u387, u388, u389, u390, u391, u392, u393, u394, u395, u396, u397, u398, u399, u400, u401, u402, u403, u404, u405, u406, u407, u408, u409, u410, u411, u412, u413, u414, u415, u416, u417, u418, u419, u420, u421, u422, u423, u424, u425, u426, u427, u428, u429, u430, u431, u432, u433, u434, u435, u436, u437, u438, u439, u440, u441, u442, u443, u444, u445, u446, u447, u448], []⟩ wa := by
  have HQ := hid q
  have HL := hid lk
  have HX := hid (And.intro X (And.intro r4 r5))
  have n3 := q.n3
  have ha := q.ha
  have hz := X.size
  have hmk := run_make_row' (P := Tryd.prog) 31 4 (.bool false) 1 Tryd.underlying31 Tryd.info4 rfl .i64 .i64 n (by omega) (by omega)
  clear q lk X r4 r5
  rw [show TAIL Tryd.f3 24 = .seq (headS (TAIL Tryd.f3 24)) (TAIL Tryd.f3 25) from rfl]
  conv => arg 2; arg 1; whnf
  go_wp2_with fail
  rw [show TAIL Tryd.f3 25 = .seq (headS (TAIL Tryd.f3 25)) (TAIL Tryd.f3 26) from rfl]
  conv => arg 2; arg 1; whnf
  go_wp2_with fail
  have R8 := World.rowIs_made wa (.bool false) n 4
  have R9 := World.rowIs_made (wa.alloc (.cells (madeCells #[.bool false] n) 4)) (.bool false) n 4
  rw [World.size_alloc] at R9
  rw [hz] at R8 R9
  have y1 : ((wa.alloc (.cells (madeCells #[.bool false] n) 4)).alloc (.cells (madeCells #[.bool false] n) 4)).cell? ⟨s + 8 + 1, a, none⟩ = some (.bool false) := R9.cell (i := a) ha
  have y2 : ((wa.alloc (.cells (madeCells #[.bool false] n) 4)).alloc (.cells (madeCells #[.bool false] n) 4)).frozen? ⟨s + 8 + 1, a, none⟩ = false := R9.frozen a
  have HR := hid (And.intro (World.rowIs.alloc R8 (.cells (madeCells #[.bool false] n) 4)) R9)
  have hsz := hid (show ((wa.alloc (.cells (madeCells #[.bool false] n) 4)).alloc (.cells (madeCells #[.bool false] n) 4)).heap.size = s + 10 from by simp [hz])
  have hbl := hid (show Below wa.heap.size wa ((wa.alloc (.cells (madeCells #[.bool false] n) 4)).alloc (.cells (madeCells #[.bool false] n) 4)) from ((Below.refl _ _).alloc (Nat.le_refl _) _).alloc (by simp) _)
  clear R8 R9 hmk hz
  generalize (wa.alloc (.cells (madeCells #[.bool false] n) 4)).alloc (.cells (madeCells #[.bool false] n) 4) = w9 at *
  rw [show TAIL Tryd.f3 26 = .seq (headS (TAIL Tryd.f3 26)) (TAIL Tryd.f3 27) from rfl]
  conv => arg 2; arg 1; whnf
  go_wp2_with fail
  have HY := hid (only_a HX.out.1 HX.out.2.1 HX.out.2.2 hbl.out hsz.out HR.out.1 HR.out.2 a)
  clear y1 y2 HR hbl hsz HX
  generalize w9.setCell ⟨s + 8 + 1, a, none⟩ (.bool true) = w10 at *
  rw [show TAIL Tryd.f3 27 = .seq (headS (TAIL Tryd.f3 27)) (TAIL Tryd.f3 28) from rfl]
  conv => arg 2; arg 1; whnf
  go_wp2_with fail
  refine (recountS (w0 := w0) (n := n) (k := 10) (pl := fun _ => false) HY.out.1 (by omega) HQ.out.m1 (HY.out.1.all (Rw.I s n S) (.tail _ (.tail _ (.tail _ (.tail _ (.tail _ (.tail _ (.tail _ (.head _))))))))) (HY.out.1.all (Rw.I (s + 1) n Wn) (.tail _ (.tail _ (.tail _ (.tail _ (.tail _ (.tail _ (.head _)))))))) (HY.out.1.all (Rw.B (s + 8) n (fun _ => false)) (.tail _ (.head _))) HQ.out.bS HQ.out.bW).mono ?_
  rintro e w11 ⟨rfl, h1⟩
  have H1 := hid (show Sx w0 s w11 12 _ ∧ RI w11 (s + 4) (2 * n + 1) _ ∧ RI w11 (s + 5) (2 * n + 1) _ from ⟨h1.x, row_later HY.out.2.1 h1.b, row_later HY.out.2.2 h1.b⟩)
  clear h1 HY
  go_wp2_with fail
  rw [show TAIL Tryd.f3 28 = .seq (headS (TAIL Tryd.f3 28)) (TAIL Tryd.f3 29) from rfl]
  conv => arg 2; arg 1; whnf
  go_wp2_with fail
  refine (recountS (w0 := w0) (n := n) (k := 12) (pl := fun i => i == a) H1.out.1 (by omega) HQ.out.m1 (H1.out.1.all (Rw.I s n S) (.tail _ (.tail _ (.tail _ (.tail _ (.tail _ (.tail _ (.tail _ (.tail _ (.tail _ (.head _))))))))))) (H1.out.1.all (Rw.I (s + 1) n Wn) (.tail _ (.tail _ (.tail _ (.tail _ (.tail _ (.tail _ (.tail _ (.tail _ (.head _)))))))))) (H1.out.1.all (Rw.B (s + 9) n (fun i => i == a)) (.tail _ (.tail _ (.head _)))) HQ.out.bS HQ.out.bW).mono ?_
  rintro e w12 ⟨rfl, h1⟩
  have H2 := hid (show Sx w0 s w12 14 _ ∧ RI w12 (s + 4) (2 * n + 1) _ ∧ RI w12 (s + 5) (2 * n + 1) _ from ⟨h1.x, row_later H1.out.2.1 h1.b, row_later H1.out.2.2 h1.b⟩)
  clear h1 H1
  go_wp2_with fail
  exact t29 ⟨H2.out.1.size, H2.out.1.s0, H2.out.1.s1, H2.out.1.tab, H2.out.1.below, HQ.out.n2, HQ.out.n3, HQ.out.m0, HQ.out.m1, HQ.out.ha, HQ.out.hc, HQ.out.hac, HQ.out.v0, HQ.out.va, fun i hi => (HQ.out.bS i hi).2, fun i hi => (HQ.out.bW i hi).2, HL.out,
    H2.out.1.all (Rw.I s n S) (.tail _ (.tail _ (.tail _ (.tail _ (.tail _ (.tail _ (.tail _ (.tail _ (.tail _ (.tail _ (.tail _ (.head _)))))))))))), H2.out.1.all (Rw.I (s + 1) n Wn) (.tail _ (.tail _ (.tail _ (.tail _ (.tail _ (.tail _ (.tail _ (.tail _ (.tail _ (.tail _ (.head _))))))))))), H2.out.1.all (Rw.I (s + 2) (2 * n + 1) (fun i => (N0 i : Int))) (.tail _ (.tail _ (.tail _ (.tail _ (.tail _ (.tail _ (.tail _ (.tail _ (.tail _ (.head _)))))))))), H2.out.1.all (Rw.I (s + 3) (2 * n + 1) (fun i => (P0 i : Int))) (.tail _ (.tail _ (.tail _ (.tail _ (.tail _ (.tail _ (.tail _ (.tail _ (.head _))))))))), H2.out.2.1, H2.out.2.2,
    H2.out.1.all (Rw.I (s + 6) (2 * n + 1) (fun i => (NN N0 P0 a i : Int))) (.tail _ (.tail _ (.tail _ (.tail _ (.tail _ (.tail _ (.tail _ (.head _)))))))), H2.out.1.all (Rw.I (s + 7) (2 * n + 1) (fun i => (PP N0 P0 a i : Int))) (.tail _ (.tail _ (.tail _ (.tail _ (.tail _ (.tail _ (.head _))))))), H2.out.1.all (Rw.B (s + 9) n (fun i => i == a)) (.tail _ (.tail _ (.tail _ (.tail _ (.head _))))),
    H2.out.1.all (Rw.I (s + 10) m (fun v => cnt Wn (fun _ => false) n v)) (.tail _ (.tail _ (.tail _ (.head _)))), H2.out.1.all (Rw.I (s + 11) m (fun v => cnt S (fun _ => false) n v)) (.tail _ (.tail _ (.head _))), H2.out.1.all (Rw.I (s + 12) m (fun v => cnt Wn (fun i => i == a) n v)) (.tail _ (.head _)), H2.out.1.all (Rw.I (s + 13) m (fun v => cnt S (fun i => i == a) n v)) (.head _)⟩

set_option maxRecDepth 1000000 in
set_option maxHeartbeats 4000000 in
theorem t10 {u11 u12 u13 u14 u15 u16 u17 u18 u19 u20 u21 u22 u24 u25 u26 u27 u28 u29 u30 u31 u32 u33 u34 u35 u36 u37 u38 u39 u40 u41 u42 u43 u44 u45 u46 u47 u48 u49 u50 u51 u52 u53 u54 u55 u56 u57 u58 u59 u60 u61 u62 u63 u64 u65 u66 u67 u68 u69 u70 u71 u72 u73 u74 u75 u76 u77 u78 u79 u80 u81 u82 u83 u84 u85 u86 u87 u88 u89 u90 u91 u92 u93 u94 u95 u96 u97 u98 u99 u100 u101 u102 u103 u104 u105 u106 u107 u108 u109 u110 u111 u112 u113 u114 u115 u116 u117 u118 u119 u120 u121 u122 u123 u124 u125 u126 u127 u128 u129 u130 u131 u132 u133 u134 u135 u136 u137 u138 u139 u140 u141 u142 u143 u144 u145 u146 u147 u148 u149 u150 u151 u152 u153 u154 u155 u156 u157 u158 u159 u160 u161 u162 u163 u164 u165 u166 u167 u168 u169 u170 u171 u172 u173 u174 u175 u176 u177 u178 u179 u180 u181 u182 u183 u184 u185 u186 u187 u188 u189 u190 u191 u192 u193 u194 u195 u196 u197 u198 u199 u200 u201 u202 u203 u204 u205 u206 u207 u208 u209 u210 u211 u212 u213 u214 u215 u216 u217 u218 u219 u220 u221 u222 u223 u224 u225 u226 u227 u228 u229 u230 u231 u232 u233 u234 u235 u236 u237 u238 u239 u240 u241 u242 u243 u244 u245 u246 u247 u248 u249 u250 u251 u252 u253 u254 u255 u256 u257 u258 u259 u260 u261 u262 u263 u264 u265 u266 u267 u268 u269 u270 u271 u272 u273 u274 u275 u276 u277 u278 u279 u280 u281 u282 u283 u284 u285 u286 u287 u288 u289 u290 u291 u292 u293 u294 u295 u296 u297 u298 u299 u300 u301 u302 u303 u304 u305 u306 u307 u308 u309 u310 u311 u312 u313 u314 u315 u316 u317 u318 u319 u320 u321 u322 u323 u324 u325 u326 u327 u328 u329 u330 u331 u332 u333 u334 u335 u336 u337 u338 u339 u340 u341 u342 u343 u344 u345 u346 u347 u348 u349 u350 u351 u352 u353 u354 u355 u356 u357 u358 u359 u360 u361 u362 u363 u364 u365 u366 u367 u368 u369 u370 u371 u372 u373 u374 u375 u376 u377 u378 u379 u380 u381 u382 u383 u384 u385 u386 u387 u388 u389 u390 u391 u392 u393 u394 u395 u396 u397 u398 u399 u400 u401 u402 u403 u404 u405 u406 u407 u408 u409 u410 u411 u412 u413 u414 u415 u416 u417 u418 u419 u420 u421 u422 u423 u424 u425 u426 u427 u428 u429 u430 u431 u432 u433 u434 u435 u436 u437 u438 u439 u440 u441 u442 u443 u444 u445 u446 u447 u448 : Value} (q : Nums n m a c v0 va S Wn) {Z : Nat → Nat} (V : Perm (2 * n) Z) (X : Sx w0 s wa 0 []) {a0 a1 a2 : Option Addr} {c0 c1 c2 : Nat} (r0 : RowI wa a0 (2 * n) (fun i => (Z i : Int))) (r1 : RowI wa a1 n S) (r2 : RowI wa a2 n Wn) {fa fb : Bool} {vb : Int} : Code.wp Tryd.prog (TAIL Tryd.f3 10) (bodyPost Tryd.prog Tryd.f3 (Good w0)) ⟨#[.slice a0 (2 * n) c0, .slice a1 n c1, .slice a2 n c2, .int .i64 (m : Int), .int .i64 (a : Int), .int .i64 (c : Int), .int .i64 v0, .int .i64 va, .int .i64 vb, .bool fa, .bool fb, u11, u12, u13, u14, u15, u16, u17, u18, u19, u20, u21, u22, .int .i64 (n : Int), u24, u25, u26, u27, u28, u29, u30, u31, u32, u33, u34, u35, u36, u37, u38, u39, u40, u41, u42, u43, u44, u45, u46, u47, u48, u49, u50, u51, u52, u53, u54, u55, u56, u57, u58, u59, u60, u61, u62, u63, u64, u65, u66, u67, u68, u69, u70, u71, u72, u73, u74, u75, u76, u77, u78, u79, u80, u81, u82, u83, u84, u85, u86, u87, u88, u89, u90, u91, u92, u93, u94, u95, u96, u97, u98, u99, u100, u101, u102, u103, u104, u105, u106, u107, u108, u109, u110, u111, u112, u113, u114, u115, u116, u117, u118, u119, u120, u121, u122, u123, u124, u125, u126, u127, u128, u129, u130, u131, u132, u133, u134, u135, u136, u137, u138, u139, u140, u141, u142, u143, u144, u145, u146, u147, u148, u149, u150, u151, u152, u153, u154, u155, u156, u157, u158, u159, u160, u161, u162, u163, u164, u165, u166, u167, u168, u169, u170, u171, u172, u173, u174, u175, u176, u177, u178, u179, u180, u181, u182, u183, u184, u185, u186, u187, u188, u189, u190, u191, u192, u193, u194, u195, u196, u197, u198, u199, u200, u201, u202, u203, u204, u205, u206, u207, u208, u209, u210, u211, u212, u213, u214, u215, u216, u217, u218, u219, u220, u221, u222, u223, u224, u225, u226, u227, u228, u229, u230, u231, u232, u233, u234, u235, u236, u237, u238, u239, u240, u241, u242, u243, u244, u245, u246, u247, u248, u249, u250, u251, u252, u253, u254, u255, u256, u257, u258, u259, u260, u261, u262, u263, u264, u265, u266, u267, u268, u269, u270, u271, u272, u273, u274, u275, u276, u277, u278, u279, u280, u281, u282, u283, u284, u285, u286, u287, u288, u289, u290, u291, u292, u293, u294, u295, u296, u297, u298, u299, u300, u301, u302, u303, u304, u305, u306, u307, u308, u309, u310, u311, u312, u313, u314, u315, u316, u317, u318, u319, u320, u321, u322, u323, u324, u325, u326, u327, u328, u329, u330, u331, u332, u333, u334, u335, u336, u337, u338, u339, u340, u341, u342, u343, u344, u345, u346, u347, u348, u349, u350, u351, u352, u353, u354, u355, u356, u357, u358, u359, u360, u361, u362, u363, u364, u365, u366, u367, u368, u369, u370, u371, u372, u373, u374, u375, u376, u377, u378, u379, u380, u381, u382, u383, u384, u385, u386, u387, u388, u389, u390, u391, u392, u393, u394, u395, u396, u397, u398, u399, u400, u401, u402, u403, u404, u405, u406, u407, u408, u409, u410, u411, u412, u413, u414, u415, u416, u417, u418, u419, u420, u421, u422, u423, u424, u425, u426, u427, u428, u429, u430, u431, u432, u433, u434, u435, u436, u437, u438, u439, u440, u441, u442, u443, u444, u445, u446, u447, u448], []⟩ wa := by
  have HQ := hid q
  have HV := hid V
  have HX := hid X
  have R0 := hid r0
  have R1 := hid r1
  have R2 := hid r2
  have n3 := q.n3
  have n2 := q.n2
  have ha := q.ha
  have hc := q.hc
  clear q V X r0 r1 r2
  rw [show TAIL Tryd.f3 10 = .seq (headS (TAIL Tryd.f3 10)) (TAIL Tryd.f3 11) from rfl]
  conv => arg 2; arg 1; whnf
  go_wp2_with fail
  refine (cloneS (k := 0) HX.out (by omega) (by omega) R1.out).mono ?_
  rintro e w1 ⟨rfl, h1⟩
  replace R0 := hid (R0.out.later h1.b)
  replace R2 := hid (R2.out.later h1.b)
  replace HX : Hid (Sx w0 s w1 1 _) := hid h1.x
  clear h1 R1
  go_wp2_with fail
  rw [show TAIL Tryd.f3 11 = .seq (headS (TAIL Tryd.f3 11)) (TAIL Tryd.f3 12) from rfl]
  conv => arg 2; arg 1; whnf
  go_wp2_with fail
  refine (cloneS (k := 1) HX.out (by omega) (by omega) R2.out).mono ?_
  rintro e w2 ⟨rfl, h1⟩
  replace R0 := hid (R0.out.later h1.b)
  replace HX : Hid (Sx w0 s w2 2 _) := hid h1.x
  clear h1 R2
  go_wp2_with fail
  rw [show TAIL Tryd.f3 12 = .seq (headS (TAIL Tryd.f3 12)) (TAIL Tryd.f3 13) from rfl]
  conv => arg 2; arg 1; whnf
  go_wp2_with fail
  rw [show TAIL Tryd.f3 13 = .seq (headS (TAIL Tryd.f3 13)) (TAIL Tryd.f3 14) from rfl]
  conv => arg 2; arg 1; whnf
  go_wp2_with fail
  refine (buildS (k := 2) HX.out (by omega) HV.out R0.out).mono ?_
  rintro e w3 ⟨rfl, h1⟩
  obtain ⟨rk, N0, P0, L0, hx⟩ := h1.x
  replace HX : Hid (Sx w0 s w3 4 _) := hid hx
  have HL := hid L0
  clear h1 R0 HV L0 hx
  go_wp2_with fail
  rw [show TAIL Tryd.f3 14 = .seq (headS (TAIL Tryd.f3 14)) (TAIL Tryd.f3 15) from rfl]
  conv => arg 2; arg 1; whnf
  go_wp2_with fail
  refine (cloneS (k := 4) (n := 2 * n + 1) (Z := fun i => (N0 i : Int)) HX.out (by omega) (by omega) (RI.row (HX.out.all (Rw.I (s + 2) (2 * n + 1) (fun i => (N0 i : Int))) (.tail _ (.head _))))).mono ?_
  rintro e w4 ⟨rfl, h1⟩
  replace HX : Hid (Sx w0 s w4 5 _) := hid h1.x
  clear h1
  go_wp2_with fail
  rw [show TAIL Tryd.f3 15 = .seq (headS (TAIL Tryd.f3 15)) (TAIL Tryd.f3 16) from rfl]
  conv => arg 2; arg 1; whnf
  go_wp2_with fail
  refine (cloneS (k := 5) (n := 2 * n + 1) (Z := fun i => (P0 i : Int)) HX.out (by omega) (by omega) (RI.row (HX.out.all (Rw.I (s + 3) (2 * n + 1) (fun i => (P0 i : Int))) (.tail _ (.head _))))).mono ?_
  rintro e w5 ⟨rfl, h1⟩
  have HU : Hid (Ul w0 s w5 6 (2 * n + 1) N0 P0 [Rw.I (s + 3) (2 * n + 1) (fun i => (P0 i : Int)), Rw.I (s + 2) (2 * n + 1) (fun i => (N0 i : Int)), Rw.I (s + 1) n Wn, Rw.I s n S]) := hid ⟨h1.x.tail.tail, h1.x.tail.head, h1.x.head⟩
  clear h1 HX
  go_wp2_with fail
  rw [show TAIL Tryd.f3 16 = .seq (headS (TAIL Tryd.f3 16)) (TAIL Tryd.f3 17) from rfl]
  conv => arg 2; arg 1; whnf
  go_wp2_with fail
  rw [show (2 * (n : Int)) = ((2 * n : Nat) : Int) from by omega]
  refine (before_any (s + 4) (2 * n) _ rk _ _ _ _ (by omega) HL.out HU.out.n).mono ?_
  rintro e x6 ⟨hb, rfl⟩
  obtain ⟨bb, rfl, _⟩ := hb
  cases bb
  · go_wp2_with fail
    go_ret
    exact ⟨rfl, HU.out.x.below⟩
  go_wp2_with fail
  rw [show TAIL Tryd.f3 17 = .seq (headS (TAIL Tryd.f3 17)) (TAIL Tryd.f3 18) from rfl]
  conv => arg 2; arg 1; whnf
  go_wp2_with fail
  rw [show (2 * (a : Int)) = ((2 * a : Nat) : Int) from by omega]
  refine (unlinkS (e := 2 * a) HU.out.x (by intro x hx; simp only [List.mem_cons, List.not_mem_nil, or_false] at hx; rcases hx with rfl | rfl | rfl | rfl <;> simp [Rw.I]) (by omega) (by omega) (by have := HL.out.nle (2 * a) (by omega) (fun q => q); omega) (by have := HL.out.ple (2 * a) (by omega) (fun q => q); omega) HU.out.n HU.out.p).mono ?_
  rintro e w6 ⟨rfl, hu⟩
  replace HU := hid hu
  clear hu
  go_wp2_with fail
  have HL1 := hid (HL.out.unlink (e := 2 * a) (by omega) (fun q => q))
  rw [show TAIL Tryd.f3 18 = .seq (headS (TAIL Tryd.f3 18)) (TAIL Tryd.f3 19) from rfl]
  conv => arg 2; arg 1; whnf
  go_wp2_with fail
  rw [show (2 * (a : Int) + 1) = ((2 * a + 1 : Nat) : Int) from by omega]
  refine (unlinkS (e := 2 * a + 1) HU.out.x (by intro x hx; simp only [List.mem_cons, List.not_mem_nil, or_false] at hx; rcases hx with rfl | rfl | rfl | rfl <;> simp [Rw.I]) (by omega) (by omega) (by have := HL1.out.nle (2 * a + 1) (by omega) (fun q => q.elim (fun q => q) (by omega)); omega) (by have := HL1.out.ple (2 * a + 1) (by omega) (fun q => q.elim (fun q => q) (by omega)); omega) HU.out.n HU.out.p).mono ?_
  rintro e w7 ⟨rfl, hu⟩
  replace HU := hid hu
  clear hu
  go_wp2_with fail
  have HLA := hid (HL.out.placed a (by omega) (fun q => q) (fun q => q))
  clear HL1
  rw [show TAIL Tryd.f3 19 = .seq (headS (TAIL Tryd.f3 19)) (TAIL Tryd.f3 20) from rfl]
  conv => arg 2; arg 1; whnf
  go_wp2_with fail
  refine (cloneS (k := 6) (n := 2 * n + 1) (Z := fun i => (NN N0 P0 a i : Int)) HU.out.x (by omega) (by omega) (RI.row HU.out.n)).mono ?_
  rintro e w8 ⟨rfl, h1⟩
  replace HU : Hid (Ul w0 s w8 7 (2 * n + 1) (NN N0 P0 a) (PP N0 P0 a) _) := hid ⟨h1.x, row_later HU.out.n h1.b, row_later HU.out.p h1.b⟩
  clear h1
  go_wp2_with fail
  rw [show TAIL Tryd.f3 20 = .seq (headS (TAIL Tryd.f3 20)) (TAIL Tryd.f3 21) from rfl]
  conv => arg 2; arg 1; whnf
  go_wp2_with fail
  refine (cloneS (k := 7) (n := 2 * n + 1) (Z := fun i => (PP N0 P0 a i : Int)) HU.out.x (by omega) (by omega) (RI.row HU.out.p)).mono ?_
  rintro e w9 ⟨rfl, h1⟩
  replace HU : Hid (Ul w0 s w9 8 (2 * n + 1) (NN N0 P0 a) (PP N0 P0 a) _) := hid ⟨h1.x, row_later HU.out.n h1.b, row_later HU.out.p h1.b⟩
  clear h1
  go_wp2_with fail
  rw [show TAIL Tryd.f3 21 = .seq (headS (TAIL Tryd.f3 21)) (TAIL Tryd.f3 22) from rfl]
  conv => arg 2; arg 1; whnf
  go_wp2_with fail
  rw [show (2 * (n : Int)) = ((2 * n : Nat) : Int) from by omega]
  refine (before_any (s + 4) (2 * n) _ rk _ _ _ _ (by omega) HLA.out HU.out.n).mono ?_
  rintro e x7 ⟨hb, rfl⟩
  obtain ⟨bb, rfl, _⟩ := hb
  cases bb
  · go_wp2_with fail
    go_ret
    exact ⟨rfl, HU.out.x.below⟩
  go_wp2_with fail
  have hac := HQ.out.hac
  have d1 := hid (show ¬ ((False ∨ 2 * c = 2 * a) ∨ 2 * c = 2 * a + 1) from by rintro ((q | q) | q) <;> first | exact q | omega)
  have d2 := hid (show ¬ ((False ∨ 2 * c + 1 = 2 * a) ∨ 2 * c + 1 = 2 * a + 1) from by rintro ((q | q) | q) <;> first | exact q | omega)
  rw [show TAIL Tryd.f3 22 = .seq (headS (TAIL Tryd.f3 22)) (TAIL Tryd.f3 23) from rfl]
  conv => arg 2; arg 1; whnf
  go_wp2_with fail
  rw [show (2 * (c : Int)) = ((2 * c : Nat) : Int) from by omega]
  refine (unlinkS (e := 2 * c) HU.out.x (by intro x hx; simp only [List.mem_cons, List.not_mem_nil, or_false] at hx; rcases hx with rfl | rfl | rfl | rfl | rfl | rfl <;> simp [Rw.I]) (by omega) (by omega) (by have := HLA.out.nle (2 * c) (by omega) d1.out; omega) (by have := HLA.out.ple (2 * c) (by omega) d1.out; omega) HU.out.n HU.out.p).mono ?_
  rintro e w10 ⟨rfl, hu⟩
  replace HU := hid hu
  clear hu
  go_wp2_with fail
  have HL3 := hid (HLA.out.unlink (e := 2 * c) (by omega) d1.out)
  rw [show TAIL Tryd.f3 23 = .seq (headS (TAIL Tryd.f3 23)) (TAIL Tryd.f3 24) from rfl]
  conv => arg 2; arg 1; whnf
  go_wp2_with fail
  rw [show (2 * (c : Int) + 1) = ((2 * c + 1 : Nat) : Int) from by omega]
  refine (unlinkS (e := 2 * c + 1) HU.out.x (by intro x hx; simp only [List.mem_cons, List.not_mem_nil, or_false] at hx; rcases hx with rfl | rfl | rfl | rfl | rfl | rfl <;> simp [Rw.I]) (by omega) (by omega) (by have := HL3.out.nle (2 * c + 1) (by omega) (fun q => q.elim d2.out (by omega)); omega) (by have := HL3.out.ple (2 * c + 1) (by omega) (fun q => q.elim d2.out (by omega)); omega) HU.out.n HU.out.p).mono ?_
  rintro e w11 ⟨rfl, hu⟩
  replace HU := hid hu
  clear hu
  go_wp2_with fail
  exact t24 HQ.out HL.out HU.out.x HU.out.n HU.out.p

end Go.Proofs.Qxb6614338aDoor
