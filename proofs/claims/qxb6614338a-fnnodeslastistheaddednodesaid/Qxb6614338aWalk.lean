import Derived.Test.Qxb6614338aParts
import Derived.BigGuardPart
import Derived.Deep.LoopGhost
namespace Go.Proofs.Qxb6614338a
open Go.RowKit

/-- A function's text from its n-th statement on. -/
def dropS : Nat → Code → Code
  | 0, c => c
  | n + 1, .seq _ b => dropS n b
  | _ + 1, c => c
def headS : Code → Code
  | .seq a _ => a
  | c => c
def TAIL (f : Func) (n : Nat) : Code := dropS n (f.body.getD .skip)

/-- What the law says at its end. -/
def Good (w0 : World) : Ending → World → Prop := fun e w' => e = .returned (.bool true) ∧ Below w0.heap.size w0 w'

theorem below_drewN {B : Nat} {w w' : World} (h : Below B w w') (q : Nat) : Below B w (w'.drewN q) := ⟨h.os, h.tape, h.output, h.size, h.block⟩

theorem row_at {k : IntKind} {w : World} {a : Option Addr} {l : Nat} {Z : Nat → Int} (h : RowI k w a l Z) {b off : Nat} (e : a = some ⟨b, off, none⟩) {i : Nat} (hi : i < l) : w.cell? ⟨b, off + i, none⟩ = some (.int k (Z i)) := by
  obtain ⟨b', off', e', hc⟩ := h i hi
  rw [e] at e'
  cases e'
  exact hc

set_option maxRecDepth 1000000 in
set_option maxHeartbeats 4000000 in
theorem t27 {u0 u1 u2 u3 u4 u5 u6 u7 u8 u9 u10 u11 u12 u13 u14 u15 u16 u17 u18 u19 u20 u21 u22 u23 u24 u25 u26 u27 u28 u29 u30 u31 u32 u33 u34 u35 u36 u37 u38 u39 u40 u41 u42 u43 u44 u45 u46 u47 u48 u49 u50 u51 u52 u53 u54 u55 u56 u57 u58 u59 u60 u61 u62 u63 u64 u65 u66 u67 u68 u69 u70 u71 u72 u73 u74 u75 u76 u77 u78 u79 u80 u81 u82 u83 u84 u85 u86 u87 u88 u89 u90 u91 u92 u93 u94 u95 u96 u97 u98 u99 u100 u101 u102 u103 u104 u105 u106 u107 u108 u109 u110 u111 u112 u113 u114 u115 u116 u117 u118 u119 u120 u121 u122 u123 u124 u125 u126 u127 u128 u129 u130 u131 u132 u133 u134 u135 u136 u137 u138 u139 u140 u141 u142 u143 u144 u145 u146 u147 u148 u149 u150 u151 u152 u153 u154 u155 u156 u157 u158 u159 u160 u161 u162 u163 u164 u165 u166 u167 u168 u169 u170 u171 u172 u173 u174 u175 u176 u177 u178 u179 u180 u181 u182 u183 u184 u185 u186 u187 u188 u189 u190 u191 u192 u193 u194 u195 u196 u197 u198 u199 u200 u201 u202 u203 u204 u205 u206 u207 u208 u209 u210 u211 u212 u213 u214 u215 u216 u217 u218 u219 u220 u221 u222 u223 u224 u225 u226 u227 u228 u229 u230 u231 u232 u233 u234 u235 u236 u237 u238 u239 u240 u241 u242 u243 u244 u245 u246 u247 u248 u249 u250 u251 u252 u253 u254 u255 u256 u257 u258 u259 u260 u261 u262 u263 u264 u265 u266 u267 u268 u269 u270 u271 u272 u273 u274 u275 u276 u277 u278 u279 u280 u281 u282 u283 u284 u285 u286 u287 u288 u289 u290 u291 u292 u293 u294 u295 u296 u297 u298 u299 u300 u301 u302 u303 u304 u305 u306 u307 u308 u309 u310 u311 u312 u313 u314 u315 u316 u317 u318 u319 u320 u321 u322 u323 u324 u325 u326 u327 u328 u329 u330 u331 u332 u333 u334 u335 u336 u337 u338 u339 u340 u341 u342 u343 u344 u345 u346 u347 u348 : Value} (w0 wa : World) (hb : Below w0.heap.size w0 wa) : Code.wp Try.prog (TAIL Try.f3 27) (bodyPost Try.prog Try.f3 (Good w0)) ⟨#[u0, u1, u2, u3, u4, u5, u6, u7, u8, u9, u10, u11, u12, u13, u14, u15, u16, u17, u18, u19, u20, u21, u22, u23, u24, u25, u26, u27, u28, u29, u30, u31, u32, u33, u34, u35, u36, u37, u38, u39, u40, u41, u42, u43, u44, u45, u46, u47, u48, u49, u50, u51, u52, u53, u54, u55, u56, u57, u58, u59, u60, u61, u62, u63, u64, u65, u66, u67, u68, u69, u70, u71, u72, u73, u74, u75, u76, u77, u78, u79, u80, u81, u82, u83, u84, u85, u86, u87, u88, u89, u90, u91, u92, u93, u94, u95, u96, u97, u98, u99, u100, u101, u102, u103, u104, u105, u106, u107, u108, u109, u110, u111, u112, u113, u114, u115, u116, u117, u118, u119, u120, u121, u122, u123, u124, u125, u126, u127, u128, u129, u130, u131, u132, u133, u134, u135, u136, u137, u138, u139, u140, u141, u142, u143, u144, u145, u146, u147, u148, u149, u150, u151, u152, u153, u154, u155, u156, u157, u158, u159, u160, u161, u162, u163, u164, u165, u166, u167, u168, u169, u170, u171, u172, u173, u174, u175, u176, u177, u178, u179, u180, u181, u182, u183, u184, u185, u186, u187, u188, u189, u190, u191, u192, u193, u194, u195, u196, u197, u198, u199, u200, u201, u202, u203, u204, u205, u206, u207, u208, u209, u210, u211, u212, u213, u214, u215, u216, u217, u218, u219, u220, u221, u222, u223, u224, u225, u226, u227, u228, u229, u230, u231, u232, u233, u234, u235, u236, u237, u238, u239, u240, u241, u242, u243, u244, u245, u246, u247, u248, u249, u250, u251, u252, u253, u254, u255, u256, u257, u258, u259, u260, u261, u262, u263, u264, u265, u266, u267, u268, u269, u270, u271, u272, u273, u274, u275, u276, u277, u278, u279, u280, u281, u282, u283, u284, u285, u286, u287, u288, u289, u290, u291, u292, u293, u294, u295, u296, u297, u298, u299, u300, u301, u302, u303, u304, u305, u306, u307, u308, u309, u310, u311, u312, u313, u314, u315, u316, u317, u318, u319, u320, u321, u322, u323, u324, u325, u326, u327, u328, u329, u330, u331, u332, u333, u334, u335, u336, u337, u338, u339, u340, u341, u342, u343, u344, u345, u346, u347, u348], []⟩ wa := by
  have HB := hid hb
  clear hb
  conv => arg 2; whnf
  go_wp2_with fail
  go_ret
  exact ⟨rfl, HB.out⟩


set_option maxRecDepth 1000000 in
set_option maxHeartbeats 4000000 in
theorem t26 {u0 u1 u2 u4 u5 u6 u7 u8 u9 u10 u11 u12 u13 u14 u15 u16 u17 u18 u19 u21 u22 u23 u24 u25 u27 u28 u29 u30 u31 u32 u33 u34 u35 u36 u37 u38 u39 u40 u41 u42 u43 u44 u45 u46 u47 u48 u49 u50 u51 u52 u53 u54 u55 u56 u57 u58 u59 u60 u61 u62 u63 u64 u65 u66 u67 u68 u69 u70 u71 u72 u73 u74 u75 u76 u77 u78 u79 u80 u81 u82 u83 u84 u85 u86 u87 u88 u89 u90 u91 u92 u93 u94 u95 u96 u97 u98 u99 u100 u101 u102 u103 u104 u105 u106 u107 u108 u109 u110 u111 u112 u113 u114 u115 u116 u117 u118 u119 u120 u121 u122 u123 u124 u125 u126 u127 u128 u129 u130 u131 u132 u133 u134 u135 u136 u137 u138 u139 u140 u141 u142 u143 u144 u145 u146 u147 u148 u149 u150 u151 u152 u153 u154 u155 u156 u157 u158 u159 u160 u161 u162 u163 u164 u165 u166 u167 u168 u169 u170 u171 u172 u173 u174 u175 u176 u177 u178 u179 u180 u181 u182 u183 u184 u185 u186 u187 u188 u189 u190 u191 u192 u193 u194 u195 u196 u197 u198 u199 u200 u201 u202 u203 u204 u205 u206 u207 u208 u209 u210 u211 u212 u213 u214 u215 u216 u217 u218 u219 u220 u221 u222 u223 u224 u225 u226 u227 u228 u229 u230 u231 u232 u233 u234 u235 u236 u237 u238 u239 u240 u241 u242 u243 u244 u245 u246 u247 u248 u249 u250 u251 u252 u253 u254 u255 u256 u257 u258 u259 u260 u261 u262 u263 u264 u265 u266 u267 u268 u269 u270 u271 u272 u273 u274 u275 u276 u277 u278 u279 u280 u281 u282 u283 u284 u285 u286 u287 u288 u289 u290 u291 u292 u293 u294 u295 u296 u297 u298 u299 u300 u301 u302 u303 u304 u305 u306 u307 u308 u309 u310 u311 u312 u313 u314 u315 u316 u317 u318 u319 u320 u321 u322 u323 u324 u325 u326 u327 u328 u329 u330 u331 u332 u333 u334 u335 u336 u337 u338 u339 u340 u341 u342 u343 u344 u345 u346 u347 u348 : Value} (w0 wa : World) (hb : Below w0.heap.size w0 wa) (a3 : Option Addr) (l1 l3 c3 gt : Nat) (Z3 : Nat → Int) (g1 : l1 ≤ 262144) (g3 : l3 ≤ 262144) (r3 : RowI .i32 wa a3 l3 Z3) (rt : ∀ j, j < l3 → wa.cell? ⟨gt, l1 + j, none⟩ = some (.int .i32 (Z3 j))) : Code.wp Try.prog (TAIL Try.f3 26) (bodyPost Try.prog Try.f3 (Good w0)) ⟨#[u0, u1, u2, .slice a3 l3 c3, u4, u5, u6, u7, u8, u9, u10, u11, u12, u13, u14, u15, u16, u17, u18, u19, .slice (some ⟨gt, 0, none⟩) (l1 + l3) (l1 + l3), u21, u22, u23, u24, u25, .int .i64 (l1 : Int), u27, u28, u29, u30, u31, u32, u33, u34, u35, u36, u37, u38, u39, u40, u41, u42, u43, u44, u45, u46, u47, u48, u49, u50, u51, u52, u53, u54, u55, u56, u57, u58, u59, u60, u61, u62, u63, u64, u65, u66, u67, u68, u69, u70, u71, u72, u73, u74, u75, u76, u77, u78, u79, u80, u81, u82, u83, u84, u85, u86, u87, u88, u89, u90, u91, u92, u93, u94, u95, u96, u97, u98, u99, u100, u101, u102, u103, u104, u105, u106, u107, u108, u109, u110, u111, u112, u113, u114, u115, u116, u117, u118, u119, u120, u121, u122, u123, u124, u125, u126, u127, u128, u129, u130, u131, u132, u133, u134, u135, u136, u137, u138, u139, u140, u141, u142, u143, u144, u145, u146, u147, u148, u149, u150, u151, u152, u153, u154, u155, u156, u157, u158, u159, u160, u161, u162, u163, u164, u165, u166, u167, u168, u169, u170, u171, u172, u173, u174, u175, u176, u177, u178, u179, u180, u181, u182, u183, u184, u185, u186, u187, u188, u189, u190, u191, u192, u193, u194, u195, u196, u197, u198, u199, u200, u201, u202, u203, u204, u205, u206, u207, u208, u209, u210, u211, u212, u213, u214, u215, u216, u217, u218, u219, u220, u221, u222, u223, u224, u225, u226, u227, u228, u229, u230, u231, u232, u233, u234, u235, u236, u237, u238, u239, u240, u241, u242, u243, u244, u245, u246, u247, u248, u249, u250, u251, u252, u253, u254, u255, u256, u257, u258, u259, u260, u261, u262, u263, u264, u265, u266, u267, u268, u269, u270, u271, u272, u273, u274, u275, u276, u277, u278, u279, u280, u281, u282, u283, u284, u285, u286, u287, u288, u289, u290, u291, u292, u293, u294, u295, u296, u297, u298, u299, u300, u301, u302, u303, u304, u305, u306, u307, u308, u309, u310, u311, u312, u313, u314, u315, u316, u317, u318, u319, u320, u321, u322, u323, u324, u325, u326, u327, u328, u329, u330, u331, u332, u333, u334, u335, u336, u337, u338, u339, u340, u341, u342, u343, u344, u345, u346, u347, u348], []⟩ wa := by
  have HB := hid hb
  have R3 := hid r3
  have RT := hid rt
  clear hb r3 rt
  rw [show TAIL Try.f3 26 = .seq (headS (TAIL Try.f3 26)) (TAIL Try.f3 27) from rfl]
  conv => arg 2; arg 1; whnf
  go_wp2_with fail
  go_loopw [28] (fun j w' => ∃ k : Nat, k ≤ l3 ∧ j = .int .i64 k ∧ Hid (∃ q, w' = wa.drewN q)) (fun j _ => l3 - (intOf j).toNat)
  case atStart => exact ⟨0, Nat.zero_le _, rfl, 0, rfl⟩
  case round =>
    obtain ⟨k, hk, rfl, hq⟩ := hrel
    by_cases hlt : k < l3
    · obtain ⟨b, off, rfl, hc⟩ := R3.out k hlt
      have hc' : wr.cell? ⟨b, off + k, none⟩ = some (.int .i32 (Z3 k)) := by obtain ⟨q, rfl⟩ := hq.out; exact hc
      have ht' : wr.cell? ⟨gt, l1 + k, none⟩ = some (.int .i32 (Z3 k)) := by obtain ⟨q, rfl⟩ := hq.out; exact RT.out k hlt
      clear hc
      generalize Z3 k = z at *
      go_wp2_with fail
      go_region
      go_wp2_with fail
      go_roundw
      case rel => exact ⟨k + 1, by omega, by go_num, by obtain ⟨q, rfl⟩ := hq.out; exact ⟨q + 1, rfl⟩⟩
      case measure => simp [intOf]; omega
    · go_wp2_with fail
      obtain ⟨q, rfl⟩ := hq.out
      exact t27 w0 _ (below_drewN HB.out q)


set_option maxRecDepth 1000000 in
set_option maxHeartbeats 4000000 in
theorem t25 {u0 u2 u4 u5 u6 u7 u8 u9 u10 u11 u12 u13 u14 u15 u16 u17 u18 u19 u21 u22 u23 u24 u25 u28 u29 u30 u31 u32 u33 u34 u35 u36 u37 u38 u39 u40 u41 u42 u43 u44 u45 u46 u47 u48 u49 u50 u51 u52 u53 u54 u55 u56 u57 u58 u59 u60 u61 u62 u63 u64 u65 u66 u67 u68 u69 u70 u71 u72 u73 u74 u75 u76 u77 u78 u79 u80 u81 u82 u83 u84 u85 u86 u87 u88 u89 u90 u91 u92 u93 u94 u95 u96 u97 u98 u99 u100 u101 u102 u103 u104 u105 u106 u107 u108 u109 u110 u111 u112 u113 u114 u115 u116 u117 u118 u119 u120 u121 u122 u123 u124 u125 u126 u127 u128 u129 u130 u131 u132 u133 u134 u135 u136 u137 u138 u139 u140 u141 u142 u143 u144 u145 u146 u147 u148 u149 u150 u151 u152 u153 u154 u155 u156 u157 u158 u159 u160 u161 u162 u163 u164 u165 u166 u167 u168 u169 u170 u171 u172 u173 u174 u175 u176 u177 u178 u179 u180 u181 u182 u183 u184 u185 u186 u187 u188 u189 u190 u191 u192 u193 u194 u195 u196 u197 u198 u199 u200 u201 u202 u203 u204 u205 u206 u207 u208 u209 u210 u211 u212 u213 u214 u215 u216 u217 u218 u219 u220 u221 u222 u223 u224 u225 u226 u227 u228 u229 u230 u231 u232 u233 u234 u235 u236 u237 u238 u239 u240 u241 u242 u243 u244 u245 u246 u247 u248 u249 u250 u251 u252 u253 u254 u255 u256 u257 u258 u259 u260 u261 u262 u263 u264 u265 u266 u267 u268 u269 u270 u271 u272 u273 u274 u275 u276 u277 u278 u279 u280 u281 u282 u283 u284 u285 u286 u287 u288 u289 u290 u291 u292 u293 u294 u295 u296 u297 u298 u299 u300 u301 u302 u303 u304 u305 u306 u307 u308 u309 u310 u311 u312 u313 u314 u315 u316 u317 u318 u319 u320 u321 u322 u323 u324 u325 u326 u327 u328 u329 u330 u331 u332 u333 u334 u335 u336 u337 u338 u339 u340 u341 u342 u343 u344 u345 u346 u347 u348 : Value} (w0 wa : World) (hb : Below w0.heap.size w0 wa) (a1 a3 : Option Addr) (l1 l3 c1 c3 gt : Nat) (Z3 : Nat → Int) (g1 : l1 ≤ 262144) (g3 : l3 ≤ 262144) (r3 : RowI .i32 wa a3 l3 Z3) (rt : ∀ j, j < l3 → wa.cell? ⟨gt, l1 + j, none⟩ = some (.int .i32 (Z3 j))) : Code.wp Try.prog (TAIL Try.f3 25) (bodyPost Try.prog Try.f3 (Good w0)) ⟨#[u0, .slice a1 l1 c1, u2, .slice a3 l3 c3, u4, u5, u6, u7, u8, u9, u10, u11, u12, u13, u14, u15, u16, u17, u18, u19, .slice (some ⟨gt, 0, none⟩) (l1 + l3) (l1 + l3), u21, u22, u23, u24, u25, .int .i64 (l1 : Int), .int .i64 ((l1 : Int) + (l3 : Int)), u28, u29, u30, u31, u32, u33, u34, u35, u36, u37, u38, u39, u40, u41, u42, u43, u44, u45, u46, u47, u48, u49, u50, u51, u52, u53, u54, u55, u56, u57, u58, u59, u60, u61, u62, u63, u64, u65, u66, u67, u68, u69, u70, u71, u72, u73, u74, u75, u76, u77, u78, u79, u80, u81, u82, u83, u84, u85, u86, u87, u88, u89, u90, u91, u92, u93, u94, u95, u96, u97, u98, u99, u100, u101, u102, u103, u104, u105, u106, u107, u108, u109, u110, u111, u112, u113, u114, u115, u116, u117, u118, u119, u120, u121, u122, u123, u124, u125, u126, u127, u128, u129, u130, u131, u132, u133, u134, u135, u136, u137, u138, u139, u140, u141, u142, u143, u144, u145, u146, u147, u148, u149, u150, u151, u152, u153, u154, u155, u156, u157, u158, u159, u160, u161, u162, u163, u164, u165, u166, u167, u168, u169, u170, u171, u172, u173, u174, u175, u176, u177, u178, u179, u180, u181, u182, u183, u184, u185, u186, u187, u188, u189, u190, u191, u192, u193, u194, u195, u196, u197, u198, u199, u200, u201, u202, u203, u204, u205, u206, u207, u208, u209, u210, u211, u212, u213, u214, u215, u216, u217, u218, u219, u220, u221, u222, u223, u224, u225, u226, u227, u228, u229, u230, u231, u232, u233, u234, u235, u236, u237, u238, u239, u240, u241, u242, u243, u244, u245, u246, u247, u248, u249, u250, u251, u252, u253, u254, u255, u256, u257, u258, u259, u260, u261, u262, u263, u264, u265, u266, u267, u268, u269, u270, u271, u272, u273, u274, u275, u276, u277, u278, u279, u280, u281, u282, u283, u284, u285, u286, u287, u288, u289, u290, u291, u292, u293, u294, u295, u296, u297, u298, u299, u300, u301, u302, u303, u304, u305, u306, u307, u308, u309, u310, u311, u312, u313, u314, u315, u316, u317, u318, u319, u320, u321, u322, u323, u324, u325, u326, u327, u328, u329, u330, u331, u332, u333, u334, u335, u336, u337, u338, u339, u340, u341, u342, u343, u344, u345, u346, u347, u348], []⟩ wa := by
  have HB := hid hb
  have R3 := hid r3
  have RT := hid rt
  clear hb r3 rt
  rw [show TAIL Try.f3 25 = .seq (headS (TAIL Try.f3 25)) (TAIL Try.f3 26) from rfl]
  conv => arg 2; arg 1; whnf
  go_wp2_with fail
  exact t26 w0 _ HB.out a3 l1 l3 c3 gt Z3 g1 g3 R3.out RT.out


set_option maxRecDepth 1000000 in
set_option maxHeartbeats 4000000 in
theorem t24 {u0 u2 u4 u5 u6 u7 u8 u9 u10 u11 u12 u13 u14 u15 u16 u17 u19 u21 u22 u23 u24 u27 u28 u29 u30 u31 u32 u33 u34 u35 u36 u37 u38 u39 u40 u41 u42 u43 u44 u45 u46 u47 u48 u49 u50 u51 u52 u53 u54 u55 u56 u57 u58 u59 u60 u61 u62 u63 u64 u65 u66 u67 u68 u69 u70 u71 u72 u73 u74 u75 u76 u77 u78 u79 u80 u81 u82 u83 u84 u85 u86 u87 u88 u89 u90 u91 u92 u93 u94 u95 u96 u97 u98 u99 u100 u101 u102 u103 u104 u105 u106 u107 u108 u109 u110 u111 u112 u113 u114 u115 u116 u117 u118 u119 u120 u121 u122 u123 u124 u125 u126 u127 u128 u129 u130 u131 u132 u133 u134 u135 u136 u137 u138 u139 u140 u141 u142 u143 u144 u145 u146 u147 u148 u149 u150 u151 u152 u153 u154 u155 u156 u157 u158 u159 u160 u161 u162 u163 u164 u165 u166 u167 u168 u169 u170 u171 u172 u173 u174 u175 u176 u177 u178 u179 u180 u181 u182 u183 u184 u185 u186 u187 u188 u189 u190 u191 u192 u193 u194 u195 u196 u197 u198 u199 u200 u201 u202 u203 u204 u205 u206 u207 u208 u209 u210 u211 u212 u213 u214 u215 u216 u217 u218 u219 u220 u221 u222 u223 u224 u225 u226 u227 u228 u229 u230 u231 u232 u233 u234 u235 u236 u237 u238 u239 u240 u241 u242 u243 u244 u245 u246 u247 u248 u249 u250 u251 u252 u253 u254 u255 u256 u257 u258 u259 u260 u261 u262 u263 u264 u265 u266 u267 u268 u269 u270 u271 u272 u273 u274 u275 u276 u277 u278 u279 u280 u281 u282 u283 u284 u285 u286 u287 u288 u289 u290 u291 u292 u293 u294 u295 u296 u297 u298 u299 u300 u301 u302 u303 u304 u305 u306 u307 u308 u309 u310 u311 u312 u313 u314 u315 u316 u317 u318 u319 u320 u321 u322 u323 u324 u325 u326 u327 u328 u329 u330 u331 u332 u333 u334 u335 u336 u337 u338 u339 u340 u341 u342 u343 u344 u345 u346 u347 u348 : Value} (w0 wa : World) (hb : Below w0.heap.size w0 wa) (a1 a3 : Option Addr) (l0 l1 l3 c1 c3 gs gt : Nat) (Z3 : Nat → Int) (g0 : l0 ≤ 262144) (g1 : l1 ≤ 262144) (g3 : l3 ≤ 262144) (r3 : RowI .i32 wa a3 l3 Z3) (rt : ∀ j, j < l3 → wa.cell? ⟨gt, l1 + j, none⟩ = some (.int .i32 (Z3 j))) (hs2 : wa.cell? ⟨gs, l0, none⟩ = some (.int .i32 ((l1 : Int) + (l3 : Int)))) : Code.wp Try.prog (TAIL Try.f3 24) (bodyPost Try.prog Try.f3 (Good w0)) ⟨#[u0, .slice a1 l1 c1, u2, .slice a3 l3 c3, u4, u5, u6, u7, u8, u9, u10, u11, u12, u13, u14, u15, u16, u17, .slice (some ⟨gs, 0, none⟩) (l0 + 1) (l0 + 1), u19, .slice (some ⟨gt, 0, none⟩) (l1 + l3) (l1 + l3), u21, u22, u23, u24, .int .i64 (l0 : Int), .int .i64 (l1 : Int), u27, u28, u29, u30, u31, u32, u33, u34, u35, u36, u37, u38, u39, u40, u41, u42, u43, u44, u45, u46, u47, u48, u49, u50, u51, u52, u53, u54, u55, u56, u57, u58, u59, u60, u61, u62, u63, u64, u65, u66, u67, u68, u69, u70, u71, u72, u73, u74, u75, u76, u77, u78, u79, u80, u81, u82, u83, u84, u85, u86, u87, u88, u89, u90, u91, u92, u93, u94, u95, u96, u97, u98, u99, u100, u101, u102, u103, u104, u105, u106, u107, u108, u109, u110, u111, u112, u113, u114, u115, u116, u117, u118, u119, u120, u121, u122, u123, u124, u125, u126, u127, u128, u129, u130, u131, u132, u133, u134, u135, u136, u137, u138, u139, u140, u141, u142, u143, u144, u145, u146, u147, u148, u149, u150, u151, u152, u153, u154, u155, u156, u157, u158, u159, u160, u161, u162, u163, u164, u165, u166, u167, u168, u169, u170, u171, u172, u173, u174, u175, u176, u177, u178, u179, u180, u181, u182, u183, u184, u185, u186, u187, u188, u189, u190, u191, u192, u193, u194, u195, u196, u197, u198, u199, u200, u201, u202, u203, u204, u205, u206, u207, u208, u209, u210, u211, u212, u213, u214, u215, u216, u217, u218, u219, u220, u221, u222, u223, u224, u225, u226, u227, u228, u229, u230, u231, u232, u233, u234, u235, u236, u237, u238, u239, u240, u241, u242, u243, u244, u245, u246, u247, u248, u249, u250, u251, u252, u253, u254, u255, u256, u257, u258, u259, u260, u261, u262, u263, u264, u265, u266, u267, u268, u269, u270, u271, u272, u273, u274, u275, u276, u277, u278, u279, u280, u281, u282, u283, u284, u285, u286, u287, u288, u289, u290, u291, u292, u293, u294, u295, u296, u297, u298, u299, u300, u301, u302, u303, u304, u305, u306, u307, u308, u309, u310, u311, u312, u313, u314, u315, u316, u317, u318, u319, u320, u321, u322, u323, u324, u325, u326, u327, u328, u329, u330, u331, u332, u333, u334, u335, u336, u337, u338, u339, u340, u341, u342, u343, u344, u345, u346, u347, u348], []⟩ wa := by
  have HB := hid hb
  have R3 := hid r3
  have RT := hid rt
  clear hb r3 rt
  rw [show TAIL Try.f3 24 = .seq (headS (TAIL Try.f3 24)) (TAIL Try.f3 25) from rfl]
  conv => arg 2; arg 1; whnf
  go_wp2_with fail
  exact t25 w0 _ HB.out a1 a3 l1 l3 c1 c3 gt Z3 g1 g3 R3.out RT.out


set_option maxRecDepth 1000000 in
set_option maxHeartbeats 4000000 in
theorem t23 {u0 u2 u4 u5 u6 u7 u8 u9 u10 u11 u12 u13 u14 u15 u16 u17 u19 u21 u22 u23 u24 u26 u27 u28 u29 u30 u31 u32 u33 u34 u35 u36 u37 u38 u39 u40 u41 u42 u43 u44 u45 u46 u47 u48 u49 u50 u51 u52 u53 u54 u55 u56 u57 u58 u59 u60 u61 u62 u63 u64 u65 u66 u67 u68 u69 u70 u71 u72 u73 u74 u75 u76 u77 u78 u79 u80 u81 u82 u83 u84 u85 u86 u87 u88 u89 u90 u91 u92 u93 u94 u95 u96 u97 u98 u99 u100 u101 u102 u103 u104 u105 u106 u107 u108 u109 u110 u111 u112 u113 u114 u115 u116 u117 u118 u119 u120 u121 u122 u123 u124 u125 u126 u127 u128 u129 u130 u131 u132 u133 u134 u135 u136 u137 u138 u139 u140 u141 u142 u143 u144 u145 u146 u147 u148 u149 u150 u151 u152 u153 u154 u155 u156 u157 u158 u159 u160 u161 u162 u163 u164 u165 u166 u167 u168 u169 u170 u171 u172 u173 u174 u175 u176 u177 u178 u179 u180 u181 u182 u183 u184 u185 u186 u187 u188 u189 u190 u191 u192 u193 u194 u195 u196 u197 u198 u199 u200 u201 u202 u203 u204 u205 u206 u207 u208 u209 u210 u211 u212 u213 u214 u215 u216 u217 u218 u219 u220 u221 u222 u223 u224 u225 u226 u227 u228 u229 u230 u231 u232 u233 u234 u235 u236 u237 u238 u239 u240 u241 u242 u243 u244 u245 u246 u247 u248 u249 u250 u251 u252 u253 u254 u255 u256 u257 u258 u259 u260 u261 u262 u263 u264 u265 u266 u267 u268 u269 u270 u271 u272 u273 u274 u275 u276 u277 u278 u279 u280 u281 u282 u283 u284 u285 u286 u287 u288 u289 u290 u291 u292 u293 u294 u295 u296 u297 u298 u299 u300 u301 u302 u303 u304 u305 u306 u307 u308 u309 u310 u311 u312 u313 u314 u315 u316 u317 u318 u319 u320 u321 u322 u323 u324 u325 u326 u327 u328 u329 u330 u331 u332 u333 u334 u335 u336 u337 u338 u339 u340 u341 u342 u343 u344 u345 u346 u347 u348 : Value} (w0 wa : World) (hb : Below w0.heap.size w0 wa) (a1 a3 : Option Addr) (l0 l1 l3 c1 c3 p gs gt : Nat) (Z3 : Nat → Int) (g0 : l0 ≤ 262144) (g1 : l1 ≤ 262144) (g3 : l3 ≤ 262144) (hp : (l0 : Int) - 1 = (p : Int)) (r3 : RowI .i32 wa a3 l3 Z3) (rt : ∀ j, j < l3 → wa.cell? ⟨gt, l1 + j, none⟩ = some (.int .i32 (Z3 j))) (hs1 : wa.cell? ⟨gs, p, none⟩ = some (.int .i32 (l1 : Int))) (hs2 : wa.cell? ⟨gs, l0, none⟩ = some (.int .i32 ((l1 : Int) + (l3 : Int)))) : Code.wp Try.prog (TAIL Try.f3 23) (bodyPost Try.prog Try.f3 (Good w0)) ⟨#[u0, .slice a1 l1 c1, u2, .slice a3 l3 c3, u4, u5, u6, u7, u8, u9, u10, u11, u12, u13, u14, u15, u16, u17, .slice (some ⟨gs, 0, none⟩) (l0 + 1) (l0 + 1), u19, .slice (some ⟨gt, 0, none⟩) (l1 + l3) (l1 + l3), u21, u22, u23, u24, .int .i64 (l0 : Int), u26, u27, u28, u29, u30, u31, u32, u33, u34, u35, u36, u37, u38, u39, u40, u41, u42, u43, u44, u45, u46, u47, u48, u49, u50, u51, u52, u53, u54, u55, u56, u57, u58, u59, u60, u61, u62, u63, u64, u65, u66, u67, u68, u69, u70, u71, u72, u73, u74, u75, u76, u77, u78, u79, u80, u81, u82, u83, u84, u85, u86, u87, u88, u89, u90, u91, u92, u93, u94, u95, u96, u97, u98, u99, u100, u101, u102, u103, u104, u105, u106, u107, u108, u109, u110, u111, u112, u113, u114, u115, u116, u117, u118, u119, u120, u121, u122, u123, u124, u125, u126, u127, u128, u129, u130, u131, u132, u133, u134, u135, u136, u137, u138, u139, u140, u141, u142, u143, u144, u145, u146, u147, u148, u149, u150, u151, u152, u153, u154, u155, u156, u157, u158, u159, u160, u161, u162, u163, u164, u165, u166, u167, u168, u169, u170, u171, u172, u173, u174, u175, u176, u177, u178, u179, u180, u181, u182, u183, u184, u185, u186, u187, u188, u189, u190, u191, u192, u193, u194, u195, u196, u197, u198, u199, u200, u201, u202, u203, u204, u205, u206, u207, u208, u209, u210, u211, u212, u213, u214, u215, u216, u217, u218, u219, u220, u221, u222, u223, u224, u225, u226, u227, u228, u229, u230, u231, u232, u233, u234, u235, u236, u237, u238, u239, u240, u241, u242, u243, u244, u245, u246, u247, u248, u249, u250, u251, u252, u253, u254, u255, u256, u257, u258, u259, u260, u261, u262, u263, u264, u265, u266, u267, u268, u269, u270, u271, u272, u273, u274, u275, u276, u277, u278, u279, u280, u281, u282, u283, u284, u285, u286, u287, u288, u289, u290, u291, u292, u293, u294, u295, u296, u297, u298, u299, u300, u301, u302, u303, u304, u305, u306, u307, u308, u309, u310, u311, u312, u313, u314, u315, u316, u317, u318, u319, u320, u321, u322, u323, u324, u325, u326, u327, u328, u329, u330, u331, u332, u333, u334, u335, u336, u337, u338, u339, u340, u341, u342, u343, u344, u345, u346, u347, u348], []⟩ wa := by
  have HB := hid hb
  have R3 := hid r3
  have RT := hid rt
  clear hb r3 rt
  rw [show TAIL Try.f3 23 = .seq (headS (TAIL Try.f3 23)) (TAIL Try.f3 24) from rfl]
  conv => arg 2; arg 1; whnf
  go_wp2_with fail
  exact t24 w0 _ HB.out a1 a3 l0 l1 l3 c1 c3 gs gt Z3 g0 g1 g3 R3.out RT.out hs2


set_option maxRecDepth 1000000 in
set_option maxHeartbeats 4000000 in
theorem t22 {u0 u2 u4 u5 u6 u7 u8 u9 u10 u11 u12 u13 u14 u15 u16 u17 u19 u21 u22 u23 u26 u27 u28 u29 u30 u31 u32 u33 u34 u35 u36 u37 u38 u39 u40 u41 u42 u43 u44 u45 u46 u47 u48 u49 u50 u51 u52 u53 u54 u55 u56 u57 u58 u59 u60 u61 u62 u63 u64 u65 u66 u67 u68 u69 u70 u71 u72 u73 u74 u75 u76 u77 u78 u79 u80 u81 u82 u83 u84 u85 u86 u87 u88 u89 u90 u91 u92 u93 u94 u95 u96 u97 u98 u99 u100 u101 u102 u103 u104 u105 u106 u107 u108 u109 u110 u111 u112 u113 u114 u115 u116 u117 u118 u119 u120 u121 u122 u123 u124 u125 u126 u127 u128 u129 u130 u131 u132 u133 u134 u135 u136 u137 u138 u139 u140 u141 u142 u143 u144 u145 u146 u147 u148 u149 u150 u151 u152 u153 u154 u155 u156 u157 u158 u159 u160 u161 u162 u163 u164 u165 u166 u167 u168 u169 u170 u171 u172 u173 u174 u175 u176 u177 u178 u179 u180 u181 u182 u183 u184 u185 u186 u187 u188 u189 u190 u191 u192 u193 u194 u195 u196 u197 u198 u199 u200 u201 u202 u203 u204 u205 u206 u207 u208 u209 u210 u211 u212 u213 u214 u215 u216 u217 u218 u219 u220 u221 u222 u223 u224 u225 u226 u227 u228 u229 u230 u231 u232 u233 u234 u235 u236 u237 u238 u239 u240 u241 u242 u243 u244 u245 u246 u247 u248 u249 u250 u251 u252 u253 u254 u255 u256 u257 u258 u259 u260 u261 u262 u263 u264 u265 u266 u267 u268 u269 u270 u271 u272 u273 u274 u275 u276 u277 u278 u279 u280 u281 u282 u283 u284 u285 u286 u287 u288 u289 u290 u291 u292 u293 u294 u295 u296 u297 u298 u299 u300 u301 u302 u303 u304 u305 u306 u307 u308 u309 u310 u311 u312 u313 u314 u315 u316 u317 u318 u319 u320 u321 u322 u323 u324 u325 u326 u327 u328 u329 u330 u331 u332 u333 u334 u335 u336 u337 u338 u339 u340 u341 u342 u343 u344 u345 u346 u347 u348 : Value} (w0 wa : World) (hb : Below w0.heap.size w0 wa) (a1 a3 : Option Addr) (l0 l1 l3 c1 c3 p gs gt : Nat) (Z3 : Nat → Int) (g0 : l0 ≤ 262144) (g1 : l1 ≤ 262144) (g3 : l3 ≤ 262144) (hp : (l0 : Int) - 1 = (p : Int)) (r3 : RowI .i32 wa a3 l3 Z3) (rt : ∀ j, j < l3 → wa.cell? ⟨gt, l1 + j, none⟩ = some (.int .i32 (Z3 j))) (hs1 : wa.cell? ⟨gs, p, none⟩ = some (.int .i32 (l1 : Int))) (hs2 : wa.cell? ⟨gs, l0, none⟩ = some (.int .i32 ((l1 : Int) + (l3 : Int)))) : Code.wp Try.prog (TAIL Try.f3 22) (bodyPost Try.prog Try.f3 (Good w0)) ⟨#[u0, .slice a1 l1 c1, u2, .slice a3 l3 c3, u4, u5, u6, u7, u8, u9, u10, u11, u12, u13, u14, u15, u16, u17, .slice (some ⟨gs, 0, none⟩) (l0 + 1) (l0 + 1), u19, .slice (some ⟨gt, 0, none⟩) (l1 + l3) (l1 + l3), u21, u22, u23, .int .i64 (p : Int), .int .i64 (l0 : Int), u26, u27, u28, u29, u30, u31, u32, u33, u34, u35, u36, u37, u38, u39, u40, u41, u42, u43, u44, u45, u46, u47, u48, u49, u50, u51, u52, u53, u54, u55, u56, u57, u58, u59, u60, u61, u62, u63, u64, u65, u66, u67, u68, u69, u70, u71, u72, u73, u74, u75, u76, u77, u78, u79, u80, u81, u82, u83, u84, u85, u86, u87, u88, u89, u90, u91, u92, u93, u94, u95, u96, u97, u98, u99, u100, u101, u102, u103, u104, u105, u106, u107, u108, u109, u110, u111, u112, u113, u114, u115, u116, u117, u118, u119, u120, u121, u122, u123, u124, u125, u126, u127, u128, u129, u130, u131, u132, u133, u134, u135, u136, u137, u138, u139, u140, u141, u142, u143, u144, u145, u146, u147, u148, u149, u150, u151, u152, u153, u154, u155, u156, u157, u158, u159, u160, u161, u162, u163, u164, u165, u166, u167, u168, u169, u170, u171, u172, u173, u174, u175, u176, u177, u178, u179, u180, u181, u182, u183, u184, u185, u186, u187, u188, u189, u190, u191, u192, u193, u194, u195, u196, u197, u198, u199, u200, u201, u202, u203, u204, u205, u206, u207, u208, u209, u210, u211, u212, u213, u214, u215, u216, u217, u218, u219, u220, u221, u222, u223, u224, u225, u226, u227, u228, u229, u230, u231, u232, u233, u234, u235, u236, u237, u238, u239, u240, u241, u242, u243, u244, u245, u246, u247, u248, u249, u250, u251, u252, u253, u254, u255, u256, u257, u258, u259, u260, u261, u262, u263, u264, u265, u266, u267, u268, u269, u270, u271, u272, u273, u274, u275, u276, u277, u278, u279, u280, u281, u282, u283, u284, u285, u286, u287, u288, u289, u290, u291, u292, u293, u294, u295, u296, u297, u298, u299, u300, u301, u302, u303, u304, u305, u306, u307, u308, u309, u310, u311, u312, u313, u314, u315, u316, u317, u318, u319, u320, u321, u322, u323, u324, u325, u326, u327, u328, u329, u330, u331, u332, u333, u334, u335, u336, u337, u338, u339, u340, u341, u342, u343, u344, u345, u346, u347, u348], []⟩ wa := by
  have HB := hid hb
  have R3 := hid r3
  have RT := hid rt
  clear hb r3 rt
  have e1 : ((l0 : Int) != (p : Int) + 1) = false := by rw [← hp]; simp
  have HS1 := hid hs1
  have HS2 := hid hs2
  clear hs1 hs2
  rw [show TAIL Try.f3 22 = .seq (headS (TAIL Try.f3 22)) (TAIL Try.f3 23) from rfl]
  conv => arg 2; arg 1; whnf
  go_wp2_with fail
  exact t23 w0 _ HB.out a1 a3 l0 l1 l3 c1 c3 p gs gt Z3 g0 g1 g3 hp R3.out RT.out HS1.out HS2.out


set_option maxRecDepth 1000000 in
set_option maxHeartbeats 4000000 in
theorem t21 {u0 u2 u4 u5 u6 u7 u8 u9 u10 u11 u12 u13 u14 u15 u16 u17 u19 u22 u23 u25 u26 u27 u28 u29 u30 u31 u32 u33 u34 u35 u36 u37 u38 u39 u40 u41 u42 u43 u44 u45 u46 u47 u48 u49 u50 u51 u52 u53 u54 u55 u56 u57 u58 u59 u60 u61 u62 u63 u64 u65 u66 u67 u68 u69 u70 u71 u72 u73 u74 u75 u76 u77 u78 u79 u80 u81 u82 u83 u84 u85 u86 u87 u88 u89 u90 u91 u92 u93 u94 u95 u96 u97 u98 u99 u100 u101 u102 u103 u104 u105 u106 u107 u108 u109 u110 u111 u112 u113 u114 u115 u116 u117 u118 u119 u120 u121 u122 u123 u124 u125 u126 u127 u128 u129 u130 u131 u132 u133 u134 u135 u136 u137 u138 u139 u140 u141 u142 u143 u144 u145 u146 u147 u148 u149 u150 u151 u152 u153 u154 u155 u156 u157 u158 u159 u160 u161 u162 u163 u164 u165 u166 u167 u168 u169 u170 u171 u172 u173 u174 u175 u176 u177 u178 u179 u180 u181 u182 u183 u184 u185 u186 u187 u188 u189 u190 u191 u192 u193 u194 u195 u196 u197 u198 u199 u200 u201 u202 u203 u204 u205 u206 u207 u208 u209 u210 u211 u212 u213 u214 u215 u216 u217 u218 u219 u220 u221 u222 u223 u224 u225 u226 u227 u228 u229 u230 u231 u232 u233 u234 u235 u236 u237 u238 u239 u240 u241 u242 u243 u244 u245 u246 u247 u248 u249 u250 u251 u252 u253 u254 u255 u256 u257 u258 u259 u260 u261 u262 u263 u264 u265 u266 u267 u268 u269 u270 u271 u272 u273 u274 u275 u276 u277 u278 u279 u280 u281 u282 u283 u284 u285 u286 u287 u288 u289 u290 u291 u292 u293 u294 u295 u296 u297 u298 u299 u300 u301 u302 u303 u304 u305 u306 u307 u308 u309 u310 u311 u312 u313 u314 u315 u316 u317 u318 u319 u320 u321 u322 u323 u324 u325 u326 u327 u328 u329 u330 u331 u332 u333 u334 u335 u336 u337 u338 u339 u340 u341 u342 u343 u344 u345 u346 u347 u348 : Value} (w0 wa : World) (hb : Below w0.heap.size w0 wa) (a1 a3 : Option Addr) (l0 l1 l3 c1 c3 p gs gt gk : Nat) (Z3 : Nat → Int) (g0 : l0 ≤ 262144) (g1 : l1 ≤ 262144) (g3 : l3 ≤ 262144) (hp : (l0 : Int) - 1 = (p : Int)) (r3 : RowI .i32 wa a3 l3 Z3) (rt : ∀ j, j < l3 → wa.cell? ⟨gt, l1 + j, none⟩ = some (.int .i32 (Z3 j))) (hs1 : wa.cell? ⟨gs, p, none⟩ = some (.int .i32 (l1 : Int))) (hs2 : wa.cell? ⟨gs, l0, none⟩ = some (.int .i32 ((l1 : Int) + (l3 : Int)))) : Code.wp Try.prog (TAIL Try.f3 21) (bodyPost Try.prog Try.f3 (Good w0)) ⟨#[u0, .slice a1 l1 c1, u2, .slice a3 l3 c3, u4, u5, u6, u7, u8, u9, u10, u11, u12, u13, u14, u15, u16, u17, .slice (some ⟨gs, 0, none⟩) (l0 + 1) (l0 + 1), u19, .slice (some ⟨gt, 0, none⟩) (l1 + l3) (l1 + l3), .slice (some ⟨gk, 0, none⟩) (l1 + l3) (l1 + l3), u22, u23, .int .i64 (p : Int), u25, u26, u27, u28, u29, u30, u31, u32, u33, u34, u35, u36, u37, u38, u39, u40, u41, u42, u43, u44, u45, u46, u47, u48, u49, u50, u51, u52, u53, u54, u55, u56, u57, u58, u59, u60, u61, u62, u63, u64, u65, u66, u67, u68, u69, u70, u71, u72, u73, u74, u75, u76, u77, u78, u79, u80, u81, u82, u83, u84, u85, u86, u87, u88, u89, u90, u91, u92, u93, u94, u95, u96, u97, u98, u99, u100, u101, u102, u103, u104, u105, u106, u107, u108, u109, u110, u111, u112, u113, u114, u115, u116, u117, u118, u119, u120, u121, u122, u123, u124, u125, u126, u127, u128, u129, u130, u131, u132, u133, u134, u135, u136, u137, u138, u139, u140, u141, u142, u143, u144, u145, u146, u147, u148, u149, u150, u151, u152, u153, u154, u155, u156, u157, u158, u159, u160, u161, u162, u163, u164, u165, u166, u167, u168, u169, u170, u171, u172, u173, u174, u175, u176, u177, u178, u179, u180, u181, u182, u183, u184, u185, u186, u187, u188, u189, u190, u191, u192, u193, u194, u195, u196, u197, u198, u199, u200, u201, u202, u203, u204, u205, u206, u207, u208, u209, u210, u211, u212, u213, u214, u215, u216, u217, u218, u219, u220, u221, u222, u223, u224, u225, u226, u227, u228, u229, u230, u231, u232, u233, u234, u235, u236, u237, u238, u239, u240, u241, u242, u243, u244, u245, u246, u247, u248, u249, u250, u251, u252, u253, u254, u255, u256, u257, u258, u259, u260, u261, u262, u263, u264, u265, u266, u267, u268, u269, u270, u271, u272, u273, u274, u275, u276, u277, u278, u279, u280, u281, u282, u283, u284, u285, u286, u287, u288, u289, u290, u291, u292, u293, u294, u295, u296, u297, u298, u299, u300, u301, u302, u303, u304, u305, u306, u307, u308, u309, u310, u311, u312, u313, u314, u315, u316, u317, u318, u319, u320, u321, u322, u323, u324, u325, u326, u327, u328, u329, u330, u331, u332, u333, u334, u335, u336, u337, u338, u339, u340, u341, u342, u343, u344, u345, u346, u347, u348], []⟩ wa := by
  have HB := hid hb
  have R3 := hid r3
  have RT := hid rt
  clear hb r3 rt
  have HS1 := hid hs1
  have HS2 := hid hs2
  clear hs1 hs2
  rw [show TAIL Try.f3 21 = .seq (headS (TAIL Try.f3 21)) (TAIL Try.f3 22) from rfl]
  conv => arg 2; arg 1; whnf
  go_wp2_with fail
  refine (graph_any _ _ _ _ _ _ _ _ _ _).mono ?_
  rintro e w1 ⟨rfl, rfl⟩
  go_wp2_with fail
  refine (nodes_any _ _ _ _ _ (by omega) (World.cell?_alloc_new _ _ _ _)).mono ?_
  rintro e w2 ⟨rfl, rfl⟩
  have hbl : Below wa.heap.size wa (wa.alloc (.cells #[.slice (some ⟨gs, 0, none⟩) (l0 + 1) (l0 + 1), .slice (some ⟨gt, 0, none⟩) (l1 + l3) (l1 + l3), .slice (some ⟨gk, 0, none⟩) (l1 + l3) (l1 + l3)] 30)) := (Below.refl _ _).alloc (Nat.le_refl _) _
  have HBL := hid hbl
  clear hbl
  rw [show ((l0 + 1 : Nat) : Int) - 1 = (l0 : Int) by omega]
  go_wp2_with fail
  exact t22 w0 _ (HB.out.trans (HBL.out.mono HB.out.size)) a1 a3 l0 l1 l3 c1 c3 p gs gt Z3 g0 g1 g3 hp (R3.out.later HBL.out) (fun j hj => cell_later HBL.out (RT.out j hj)) (cell_later HBL.out HS1.out) (cell_later HBL.out HS2.out)


set_option maxRecDepth 1000000 in
set_option maxHeartbeats 4000000 in
theorem t20 {u4 u5 u6 u7 u8 u9 u10 u11 u12 u13 u14 u15 u16 u17 u19 u22 u23 u24 u25 u26 u27 u28 u29 u30 u31 u32 u33 u34 u35 u36 u37 u38 u39 u40 u41 u42 u43 u44 u45 u46 u47 u48 u49 u50 u51 u52 u53 u54 u55 u56 u57 u58 u59 u60 u61 u62 u63 u64 u65 u66 u67 u68 u69 u70 u71 u72 u73 u74 u75 u76 u77 u78 u79 u80 u81 u82 u83 u84 u85 u86 u87 u88 u89 u90 u91 u92 u93 u94 u95 u96 u97 u98 u99 u100 u101 u102 u103 u104 u105 u106 u107 u108 u109 u110 u111 u112 u113 u114 u115 u116 u117 u118 u119 u120 u121 u122 u123 u124 u125 u126 u127 u128 u129 u130 u131 u132 u133 u134 u135 u136 u137 u138 u139 u140 u141 u142 u143 u144 u145 u146 u147 u148 u149 u150 u151 u152 u153 u154 u155 u156 u157 u158 u159 u160 u161 u162 u163 u164 u165 u166 u167 u168 u169 u170 u171 u172 u173 u174 u175 u176 u177 u178 u179 u180 u181 u182 u183 u184 u185 u186 u187 u188 u189 u190 u191 u192 u193 u194 u195 u196 u197 u198 u199 u200 u201 u202 u203 u204 u205 u206 u207 u208 u209 u210 u211 u212 u213 u214 u215 u216 u217 u218 u219 u220 u221 u222 u223 u224 u225 u226 u227 u228 u229 u230 u231 u232 u233 u234 u235 u236 u237 u238 u239 u240 u241 u242 u243 u244 u245 u246 u247 u248 u249 u250 u251 u252 u253 u254 u255 u256 u257 u258 u259 u260 u261 u262 u263 u264 u265 u266 u267 u268 u269 u270 u271 u272 u273 u274 u275 u276 u277 u278 u279 u280 u281 u282 u283 u284 u285 u286 u287 u288 u289 u290 u291 u292 u293 u294 u295 u296 u297 u298 u299 u300 u301 u302 u303 u304 u305 u306 u307 u308 u309 u310 u311 u312 u313 u314 u315 u316 u317 u318 u319 u320 u321 u322 u323 u324 u325 u326 u327 u328 u329 u330 u331 u332 u333 u334 u335 u336 u337 u338 u339 u340 u341 u342 u343 u344 u345 u346 u347 u348 : Value} (w0 wa : World) (hb : Below w0.heap.size w0 wa) (a0 a2 : Option Addr) (c0 c2 : Nat) (a1 a3 : Option Addr) (l0 l1 l3 c1 c3 p gs gt gk : Nat) (Z3 : Nat → Int) (g0 : l0 ≤ 262144) (g1 : l1 ≤ 262144) (g3 : l3 ≤ 262144) (hp : (l0 : Int) - 1 = (p : Int)) (r3 : RowI .i32 wa a3 l3 Z3) (rt : ∀ j, j < l3 → wa.cell? ⟨gt, l1 + j, none⟩ = some (.int .i32 (Z3 j))) (hs1 : wa.cell? ⟨gs, p, none⟩ = some (.int .i32 (l1 : Int))) (hs2 : wa.cell? ⟨gs, l0, none⟩ = some (.int .i32 ((l1 : Int) + (l3 : Int)))) : Code.wp Try.prog (TAIL Try.f3 20) (bodyPost Try.prog Try.f3 (Good w0)) ⟨#[.slice a0 l0 c0, .slice a1 l1 c1, .slice a2 l1 c2, .slice a3 l3 c3, u4, u5, u6, u7, u8, u9, u10, u11, u12, u13, u14, u15, u16, u17, .slice (some ⟨gs, 0, none⟩) (l0 + 1) (l0 + 1), u19, .slice (some ⟨gt, 0, none⟩) (l1 + l3) (l1 + l3), .slice (some ⟨gk, 0, none⟩) (l1 + l3) (l1 + l3), u22, u23, u24, u25, u26, u27, u28, u29, u30, u31, u32, u33, u34, u35, u36, u37, u38, u39, u40, u41, u42, u43, u44, u45, u46, u47, u48, u49, u50, u51, u52, u53, u54, u55, u56, u57, u58, u59, u60, u61, u62, u63, u64, u65, u66, u67, u68, u69, u70, u71, u72, u73, u74, u75, u76, u77, u78, u79, u80, u81, u82, u83, u84, u85, u86, u87, u88, u89, u90, u91, u92, u93, u94, u95, u96, u97, u98, u99, u100, u101, u102, u103, u104, u105, u106, u107, u108, u109, u110, u111, u112, u113, u114, u115, u116, u117, u118, u119, u120, u121, u122, u123, u124, u125, u126, u127, u128, u129, u130, u131, u132, u133, u134, u135, u136, u137, u138, u139, u140, u141, u142, u143, u144, u145, u146, u147, u148, u149, u150, u151, u152, u153, u154, u155, u156, u157, u158, u159, u160, u161, u162, u163, u164, u165, u166, u167, u168, u169, u170, u171, u172, u173, u174, u175, u176, u177, u178, u179, u180, u181, u182, u183, u184, u185, u186, u187, u188, u189, u190, u191, u192, u193, u194, u195, u196, u197, u198, u199, u200, u201, u202, u203, u204, u205, u206, u207, u208, u209, u210, u211, u212, u213, u214, u215, u216, u217, u218, u219, u220, u221, u222, u223, u224, u225, u226, u227, u228, u229, u230, u231, u232, u233, u234, u235, u236, u237, u238, u239, u240, u241, u242, u243, u244, u245, u246, u247, u248, u249, u250, u251, u252, u253, u254, u255, u256, u257, u258, u259, u260, u261, u262, u263, u264, u265, u266, u267, u268, u269, u270, u271, u272, u273, u274, u275, u276, u277, u278, u279, u280, u281, u282, u283, u284, u285, u286, u287, u288, u289, u290, u291, u292, u293, u294, u295, u296, u297, u298, u299, u300, u301, u302, u303, u304, u305, u306, u307, u308, u309, u310, u311, u312, u313, u314, u315, u316, u317, u318, u319, u320, u321, u322, u323, u324, u325, u326, u327, u328, u329, u330, u331, u332, u333, u334, u335, u336, u337, u338, u339, u340, u341, u342, u343, u344, u345, u346, u347, u348], []⟩ wa := by
  have HB := hid hb
  have R3 := hid r3
  have RT := hid rt
  clear hb r3 rt
  have HS1 := hid hs1
  have HS2 := hid hs2
  have HP := hid hp
  clear hs1 hs2 hp
  rw [show TAIL Try.f3 20 = .seq (headS (TAIL Try.f3 20)) (TAIL Try.f3 21) from rfl]
  conv => arg 2; arg 1; whnf
  go_wp2_with fail
  refine (graph_any _ _ _ _ _ _ _ _ _ _).mono ?_
  rintro e w1 ⟨rfl, rfl⟩
  go_wp2_with fail
  refine (nodes_any _ _ _ _ _ (by omega) (World.cell?_alloc_new _ _ _ _)).mono ?_
  rintro e w2 ⟨rfl, rfl⟩
  have hbl : Below wa.heap.size wa (wa.alloc (.cells #[.slice a0 l0 c0, .slice a1 l1 c1, .slice a2 l1 c2] 30)) := (Below.refl _ _).alloc (Nat.le_refl _) _
  have HBL := hid hbl
  clear hbl
  rw [HP.out]
  go_wp2_with fail
  exact t21 w0 _ (HB.out.trans (HBL.out.mono HB.out.size)) a1 a3 l0 l1 l3 c1 c3 p gs gt gk Z3 g0 g1 g3 HP.out (R3.out.later HBL.out) (fun j hj => cell_later HBL.out (RT.out j hj)) (cell_later HBL.out HS1.out) (cell_later HBL.out HS2.out)


/-- Two stores into two rows of the call's own. -/
theorem two_stores {w1 wr : World} {n : Nat} {F G : Nat → Value} {i : Nat} {v u : Value} (hb : Below w1.heap.size w1 wr) (hF : wr.rowIs w1.heap.size 21 n F) (hG : wr.rowIs (w1.heap.size + 1) 5 n G) :
    Below w1.heap.size w1 ((wr.setCell ⟨w1.heap.size, i, none⟩ v).setCell ⟨w1.heap.size + 1, i, none⟩ u) ∧
    ((wr.setCell ⟨w1.heap.size, i, none⟩ v).setCell ⟨w1.heap.size + 1, i, none⟩ u).rowIs w1.heap.size 21 n (fun j => if j = i then v else F j) ∧
    ((wr.setCell ⟨w1.heap.size, i, none⟩ v).setCell ⟨w1.heap.size + 1, i, none⟩ u).rowIs (w1.heap.size + 1) 5 n (fun j => if j = i then u else G j) :=
  ⟨(hb.setCell (Nat.le_refl _) _).setCell (by simp) _, (hF.set i v).setOther (by simp) u, (hG.setOther (by simp) v).set i u⟩

set_option maxRecDepth 1000000 in
set_option maxHeartbeats 4000000 in
theorem t19 {u5 u6 u7 u8 u9 u10 u11 u12 u13 u14 u15 u16 u17 u19 u22 u23 u24 u25 u26 u27 u28 u29 u30 u31 u32 u33 u34 u35 u36 u37 u38 u39 u40 u41 u42 u43 u44 u45 u46 u47 u48 u49 u50 u51 u52 u53 u54 u55 u56 u57 u58 u59 u60 u61 u62 u63 u64 u65 u66 u67 u68 u69 u70 u71 u72 u73 u74 u75 u76 u77 u78 u79 u80 u81 u82 u83 u84 u85 u86 u87 u88 u89 u90 u91 u92 u93 u94 u95 u96 u97 u98 u99 u100 u101 u102 u103 u104 u105 u106 u107 u108 u109 u110 u111 u112 u113 u114 u115 u116 u117 u118 u119 u120 u121 u122 u123 u124 u125 u126 u127 u128 u129 u130 u131 u132 u133 u134 u135 u136 u137 u138 u139 u140 u141 u142 u143 u144 u145 u146 u147 u148 u149 u150 u151 u152 u153 u154 u155 u156 u157 u158 u159 u160 u161 u162 u163 u164 u165 u166 u167 u168 u169 u170 u171 u172 u173 u174 u175 u176 u177 u178 u179 u180 u181 u182 u183 u184 u185 u186 u187 u188 u189 u190 u191 u192 u193 u194 u195 u196 u197 u198 u199 u200 u201 u202 u203 u204 u205 u206 u207 u208 u209 u210 u211 u212 u213 u214 u215 u216 u217 u218 u219 u220 u221 u222 u223 u224 u225 u226 u227 u228 u229 u230 u231 u232 u233 u234 u235 u236 u237 u238 u239 u240 u241 u242 u243 u244 u245 u246 u247 u248 u249 u250 u251 u252 u253 u254 u255 u256 u257 u258 u259 u260 u261 u262 u263 u264 u265 u266 u267 u268 u269 u270 u271 u272 u273 u274 u275 u276 u277 u278 u279 u280 u281 u282 u283 u284 u285 u286 u287 u288 u289 u290 u291 u292 u293 u294 u295 u296 u297 u298 u299 u300 u301 u302 u303 u304 u305 u306 u307 u308 u309 u310 u311 u312 u313 u314 u315 u316 u317 u318 u319 u320 u321 u322 u323 u324 u325 u326 u327 u328 u329 u330 u331 u332 u333 u334 u335 u336 u337 u338 u339 u340 u341 u342 u343 u344 u345 u346 u347 u348 : Value} (w0 w1 wa : World) (hb : Below w0.heap.size w0 w1) (hb1 : Below w1.heap.size w1 wa) (a0 a1 a2 a3 a4 : Option Addr) (l0 l1 l3 c0 c1 c2 c3 c4 p gs : Nat) (Z3 Z4 : Nat → Int) (F G : Nat → Value) (g0 : l0 ≤ 262144) (g1 : l1 ≤ 262144) (g3 : l3 ≤ 262144) (hp : (l0 : Int) - 1 = (p : Int)) (r3 : RowI .i32 w1 a3 l3 Z3) (r4 : RowI .u8 w1 a4 l3 Z4) (hs1 : w1.cell? ⟨gs, p, none⟩ = some (.int .i32 (l1 : Int))) (hs2 : w1.cell? ⟨gs, l0, none⟩ = some (.int .i32 ((l1 : Int) + (l3 : Int)))) (hF : wa.rowIs w1.heap.size 21 (l1 + l3) F) (hG : wa.rowIs (w1.heap.size + 1) 5 (l1 + l3) G) : Code.wp Try.prog (TAIL Try.f3 19) (bodyPost Try.prog Try.f3 (Good w0)) ⟨#[.slice a0 l0 c0, .slice a1 l1 c1, .slice a2 l1 c2, .slice a3 l3 c3, .slice a4 l3 c4, u5, u6, u7, u8, u9, u10, u11, u12, u13, u14, u15, u16, u17, .slice (some ⟨gs, 0, none⟩) (l0 + 1) (l0 + 1), u19, .slice (some ⟨w1.heap.size, 0, none⟩) (l1 + l3) (l1 + l3), .slice (some ⟨w1.heap.size + 1, 0, none⟩) (l1 + l3) (l1 + l3), u22, u23, u24, u25, u26, u27, u28, u29, u30, u31, u32, u33, u34, u35, u36, u37, u38, u39, u40, u41, u42, u43, u44, u45, u46, u47, u48, u49, u50, u51, u52, u53, u54, u55, u56, u57, u58, u59, u60, u61, u62, u63, u64, u65, u66, u67, u68, u69, u70, u71, u72, u73, u74, u75, u76, u77, u78, u79, u80, u81, u82, u83, u84, u85, u86, u87, u88, u89, u90, u91, u92, u93, u94, u95, u96, u97, u98, u99, u100, u101, u102, u103, u104, u105, u106, u107, u108, u109, u110, u111, u112, u113, u114, u115, u116, u117, u118, u119, u120, u121, u122, u123, u124, u125, u126, u127, u128, u129, u130, u131, u132, u133, u134, u135, u136, u137, u138, u139, u140, u141, u142, u143, u144, u145, u146, u147, u148, u149, u150, u151, u152, u153, u154, u155, u156, u157, u158, u159, u160, u161, u162, u163, u164, u165, u166, u167, u168, u169, u170, u171, u172, u173, u174, u175, u176, u177, u178, u179, u180, u181, u182, u183, u184, u185, u186, u187, u188, u189, u190, u191, u192, u193, u194, u195, u196, u197, u198, u199, u200, u201, u202, u203, u204, u205, u206, u207, u208, u209, u210, u211, u212, u213, u214, u215, u216, u217, u218, u219, u220, u221, u222, u223, u224, u225, u226, u227, u228, u229, u230, u231, u232, u233, u234, u235, u236, u237, u238, u239, u240, u241, u242, u243, u244, u245, u246, u247, u248, u249, u250, u251, u252, u253, u254, u255, u256, u257, u258, u259, u260, u261, u262, u263, u264, u265, u266, u267, u268, u269, u270, u271, u272, u273, u274, u275, u276, u277, u278, u279, u280, u281, u282, u283, u284, u285, u286, u287, u288, u289, u290, u291, u292, u293, u294, u295, u296, u297, u298, u299, u300, u301, u302, u303, u304, u305, u306, u307, u308, u309, u310, u311, u312, u313, u314, u315, u316, u317, u318, u319, u320, u321, u322, u323, u324, u325, u326, u327, u328, u329, u330, u331, u332, u333, u334, u335, u336, u337, u338, u339, u340, u341, u342, u343, u344, u345, u346, u347, u348], []⟩ wa := by
  have HB := hid hb
  have HB1 := hid hb1
  have R3 := hid r3
  have R4 := hid r4
  have HS1 := hid hs1
  have HS2 := hid hs2
  have HP := hid hp
  have HF := hid hF
  have HG := hid hG
  clear hb hb1 r3 r4 hs1 hs2 hp hF hG
  rw [show TAIL Try.f3 19 = .seq (headS (TAIL Try.f3 19)) (TAIL Try.f3 20) from rfl]
  conv => arg 2; arg 1; whnf
  go_wp2_with fail
  go_loopw [23] (fun e w' => ∃ k : Nat, k ≤ l3 ∧ e = .int .i64 k ∧ Hid (∃ F' G', Below w1.heap.size w1 w' ∧ w'.rowIs w1.heap.size 21 (l1 + l3) F' ∧ w'.rowIs (w1.heap.size + 1) 5 (l1 + l3) G' ∧ ∀ j, j < k → F' (l1 + j) = .int .i32 (Z3 j))) (fun e _ => l3 - (intOf e).toNat)
  case atStart => exact ⟨0, Nat.zero_le _, rfl, F, G, HB1.out, HF.out, HG.out, fun j hj => by omega⟩
  case round =>
    obtain ⟨k, hk, rfl, hq⟩ := hrel
    obtain ⟨F', G', hb', hF', hG', hc'⟩ := hq.out
    by_cases hlt : k < l3
    · obtain ⟨b3, o3, rfl, q3⟩ := R3.out.later hb' k hlt
      obtain ⟨b4, o4, rfl, q4⟩ := R4.out.later hb' k hlt
      have hb3 : b3 < w1.heap.size := by obtain ⟨_, _, e, h⟩ := R3.out k hlt; cases e; exact World.block_lt_of_cell? _ _ h
      have hb4 : b4 < w1.heap.size := by obtain ⟨_, _, e, h⟩ := R4.out k hlt; cases e; exact World.block_lt_of_cell? _ _ h
      have n3 : ¬ b3 = w1.heap.size := by omega
      have n4 : ¬ b4 = w1.heap.size := by omega
      have x1 := hF'.cell (i := l1 + k) (by omega)
      have x2 := hF'.frozen (l1 + k)
      have x3 := hG'.cell (i := l1 + k) (by omega)
      have x4 := hG'.frozen (l1 + k)
      have HB' := hid hb'
      have HF' := hid hF'
      have HG' := hid hG'
      have HC' := hid hc'
      have HN := hid (And.intro hb3 hb4)
      clear hb' hF' hG' hc' hb3 hb4
      generalize F' (l1 + k) = f1 at *
      generalize G' (l1 + k) = f2 at *
      have HZ := hid (rfl : Z3 k = Z3 k)
      go_wp2_with fail
      go_roundw
      case rel =>
        refine ⟨k + 1, by omega, by go_num, ?_⟩
        obtain ⟨t1, t2, t3⟩ := two_stores (i := l1 + k) (v := .int .i32 (Z3 k)) (u := .int .u8 (Z4 k)) HB'.out HF'.out HG'.out
        refine ⟨_, _, t1, t2, t3, fun j hj => ?_⟩
        by_cases e : j = k
        · subst e; simp
        · rw [if_neg (by omega)]; exact HC'.out j (by omega)
      case measure => simp [intOf]; omega
    · go_wp2_with fail
      exact t20 w0 _ (HB.out.trans (hb'.mono HB.out.size)) a0 a2 c0 c2 a1 a3 l0 l1 l3 c1 c3 p gs w1.heap.size (w1.heap.size + 1) Z3 g0 g1 g3 HP.out (R3.out.later hb') (fun j hj => by rw [hF'.cell (by omega), hc' j (by omega)]) (cell_later hb' HS1.out) (cell_later hb' HS2.out)


set_option maxRecDepth 1000000 in
set_option maxHeartbeats 4000000 in
theorem t18 {u5 u6 u7 u8 u9 u10 u11 u12 u13 u14 u15 u16 u17 u19 u22 u23 u24 u25 u26 u27 u28 u29 u30 u31 u32 u33 u34 u35 u36 u37 u38 u39 u40 u41 u42 u43 u44 u45 u46 u47 u48 u49 u50 u51 u52 u53 u54 u55 u56 u57 u58 u59 u60 u61 u62 u63 u64 u65 u66 u67 u68 u69 u70 u71 u72 u73 u74 u75 u76 u77 u78 u79 u80 u81 u82 u83 u84 u85 u86 u87 u88 u89 u90 u91 u92 u93 u94 u95 u96 u97 u98 u99 u100 u101 u102 u103 u104 u105 u106 u107 u108 u109 u110 u111 u112 u113 u114 u115 u116 u117 u118 u119 u120 u121 u122 u123 u124 u125 u126 u127 u128 u129 u130 u131 u132 u133 u134 u135 u136 u137 u138 u139 u140 u141 u142 u143 u144 u145 u146 u147 u148 u149 u150 u151 u152 u153 u154 u155 u156 u157 u158 u159 u160 u161 u162 u163 u164 u165 u166 u167 u168 u169 u170 u171 u172 u173 u174 u175 u176 u177 u178 u179 u180 u181 u182 u183 u184 u185 u186 u187 u188 u189 u190 u191 u192 u193 u194 u195 u196 u197 u198 u199 u200 u201 u202 u203 u204 u205 u206 u207 u208 u209 u210 u211 u212 u213 u214 u215 u216 u217 u218 u219 u220 u221 u222 u223 u224 u225 u226 u227 u228 u229 u230 u231 u232 u233 u234 u235 u236 u237 u238 u239 u240 u241 u242 u243 u244 u245 u246 u247 u248 u249 u250 u251 u252 u253 u254 u255 u256 u257 u258 u259 u260 u261 u262 u263 u264 u265 u266 u267 u268 u269 u270 u271 u272 u273 u274 u275 u276 u277 u278 u279 u280 u281 u282 u283 u284 u285 u286 u287 u288 u289 u290 u291 u292 u293 u294 u295 u296 u297 u298 u299 u300 u301 u302 u303 u304 u305 u306 u307 u308 u309 u310 u311 u312 u313 u314 u315 u316 u317 u318 u319 u320 u321 u322 u323 u324 u325 u326 u327 u328 u329 u330 u331 u332 u333 u334 u335 u336 u337 u338 u339 u340 u341 u342 u343 u344 u345 u346 u347 u348 : Value} (w0 w1 wa : World) (hb : Below w0.heap.size w0 w1) (hb1 : Below w1.heap.size w1 wa) (a0 a1 a2 a3 a4 : Option Addr) (l0 l1 l3 c0 c1 c2 c3 c4 p gs : Nat) (Z1 Z2 Z3 Z4 : Nat → Int) (F G : Nat → Value) (g0 : l0 ≤ 262144) (g1 : l1 ≤ 262144) (g3 : l3 ≤ 262144) (hp : (l0 : Int) - 1 = (p : Int)) (r1 : RowI .i32 w1 a1 l1 Z1) (r2 : RowI .u8 w1 a2 l1 Z2) (r3 : RowI .i32 w1 a3 l3 Z3) (r4 : RowI .u8 w1 a4 l3 Z4) (hs1 : w1.cell? ⟨gs, p, none⟩ = some (.int .i32 (l1 : Int))) (hs2 : w1.cell? ⟨gs, l0, none⟩ = some (.int .i32 ((l1 : Int) + (l3 : Int)))) (hF : wa.rowIs w1.heap.size 21 (l1 + l3) F) (hG : wa.rowIs (w1.heap.size + 1) 5 (l1 + l3) G) : Code.wp Try.prog (TAIL Try.f3 18) (bodyPost Try.prog Try.f3 (Good w0)) ⟨#[.slice a0 l0 c0, .slice a1 l1 c1, .slice a2 l1 c2, .slice a3 l3 c3, .slice a4 l3 c4, u5, u6, u7, u8, u9, u10, u11, u12, u13, u14, u15, u16, u17, .slice (some ⟨gs, 0, none⟩) (l0 + 1) (l0 + 1), u19, .slice (some ⟨w1.heap.size, 0, none⟩) (l1 + l3) (l1 + l3), .slice (some ⟨w1.heap.size + 1, 0, none⟩) (l1 + l3) (l1 + l3), u22, u23, u24, u25, u26, u27, u28, u29, u30, u31, u32, u33, u34, u35, u36, u37, u38, u39, u40, u41, u42, u43, u44, u45, u46, u47, u48, u49, u50, u51, u52, u53, u54, u55, u56, u57, u58, u59, u60, u61, u62, u63, u64, u65, u66, u67, u68, u69, u70, u71, u72, u73, u74, u75, u76, u77, u78, u79, u80, u81, u82, u83, u84, u85, u86, u87, u88, u89, u90, u91, u92, u93, u94, u95, u96, u97, u98, u99, u100, u101, u102, u103, u104, u105, u106, u107, u108, u109, u110, u111, u112, u113, u114, u115, u116, u117, u118, u119, u120, u121, u122, u123, u124, u125, u126, u127, u128, u129, u130, u131, u132, u133, u134, u135, u136, u137, u138, u139, u140, u141, u142, u143, u144, u145, u146, u147, u148, u149, u150, u151, u152, u153, u154, u155, u156, u157, u158, u159, u160, u161, u162, u163, u164, u165, u166, u167, u168, u169, u170, u171, u172, u173, u174, u175, u176, u177, u178, u179, u180, u181, u182, u183, u184, u185, u186, u187, u188, u189, u190, u191, u192, u193, u194, u195, u196, u197, u198, u199, u200, u201, u202, u203, u204, u205, u206, u207, u208, u209, u210, u211, u212, u213, u214, u215, u216, u217, u218, u219, u220, u221, u222, u223, u224, u225, u226, u227, u228, u229, u230, u231, u232, u233, u234, u235, u236, u237, u238, u239, u240, u241, u242, u243, u244, u245, u246, u247, u248, u249, u250, u251, u252, u253, u254, u255, u256, u257, u258, u259, u260, u261, u262, u263, u264, u265, u266, u267, u268, u269, u270, u271, u272, u273, u274, u275, u276, u277, u278, u279, u280, u281, u282, u283, u284, u285, u286, u287, u288, u289, u290, u291, u292, u293, u294, u295, u296, u297, u298, u299, u300, u301, u302, u303, u304, u305, u306, u307, u308, u309, u310, u311, u312, u313, u314, u315, u316, u317, u318, u319, u320, u321, u322, u323, u324, u325, u326, u327, u328, u329, u330, u331, u332, u333, u334, u335, u336, u337, u338, u339, u340, u341, u342, u343, u344, u345, u346, u347, u348], []⟩ wa := by
  have HB := hid hb
  have HB1 := hid hb1
  have R1 := hid r1
  have R2 := hid r2
  have R3 := hid r3
  have R4 := hid r4
  have HS1 := hid hs1
  have HS2 := hid hs2
  have HP := hid hp
  have HF := hid hF
  have HG := hid hG
  clear hb hb1 r1 r2 r3 r4 hs1 hs2 hp hF hG
  rw [show TAIL Try.f3 18 = .seq (headS (TAIL Try.f3 18)) (TAIL Try.f3 19) from rfl]
  conv => arg 2; arg 1; whnf
  go_wp2_with fail
  go_loopw [22] (fun e w' => ∃ k : Nat, k ≤ l1 ∧ e = .int .i64 k ∧ Hid (∃ F' G', Below w1.heap.size w1 w' ∧ w'.rowIs w1.heap.size 21 (l1 + l3) F' ∧ w'.rowIs (w1.heap.size + 1) 5 (l1 + l3) G')) (fun e _ => l1 - (intOf e).toNat)
  case atStart => exact ⟨0, Nat.zero_le _, rfl, F, G, HB1.out, HF.out, HG.out⟩
  case round =>
    obtain ⟨k, hk, rfl, hq⟩ := hrel
    obtain ⟨F', G', hb', hF', hG'⟩ := hq.out
    by_cases hlt : k < l1
    · obtain ⟨b3, o3, rfl, q3⟩ := R1.out.later hb' k hlt
      obtain ⟨b4, o4, rfl, q4⟩ := R2.out.later hb' k hlt
      have hb3 : b3 < w1.heap.size := by obtain ⟨_, _, e, h⟩ := R1.out k hlt; cases e; exact World.block_lt_of_cell? _ _ h
      have hb4 : b4 < w1.heap.size := by obtain ⟨_, _, e, h⟩ := R2.out k hlt; cases e; exact World.block_lt_of_cell? _ _ h
      have n3 : ¬ b3 = w1.heap.size := by omega
      have n4 : ¬ b4 = w1.heap.size := by omega
      have x1 := hF'.cell (i := k) (by omega)
      have x2 := hF'.frozen k
      have x3 := hG'.cell (i := k) (by omega)
      have x4 := hG'.frozen k
      have HB' := hid hb'
      have HF' := hid hF'
      have HG' := hid hG'
      clear hb' hF' hG' hb3 hb4
      generalize F' k = f1 at *
      generalize G' k = f2 at *
      go_wp2_with fail
      go_roundw
      case rel =>
        refine ⟨k + 1, by omega, by go_num, ?_⟩
        obtain ⟨t1, t2, t3⟩ := two_stores (i := k) (v := .int .i32 (Z1 k)) (u := .int .u8 (Z2 k)) HB'.out HF'.out HG'.out
        exact ⟨_, _, t1, t2, t3⟩
      case measure => simp [intOf]; omega
    · go_wp2_with fail
      exact t19 w0 w1 _ HB.out hb' a0 a1 a2 a3 a4 l0 l1 l3 c0 c1 c2 c3 c4 p gs Z3 Z4 F' G' g0 g1 g3 HP.out R3.out R4.out HS1.out HS2.out hF' hG'


set_option maxRecDepth 1000000 in
set_option maxHeartbeats 4000000 in
theorem t16 {u5 u6 u7 u8 u9 u10 u11 u12 u13 u14 u15 u16 u17 u19 u20 u21 u22 u23 u24 u25 u26 u27 u28 u29 u30 u31 u32 u33 u34 u35 u36 u37 u38 u39 u40 u41 u42 u43 u44 u45 u46 u47 u48 u49 u50 u51 u52 u53 u54 u55 u56 u57 u58 u59 u60 u61 u62 u63 u64 u65 u66 u67 u68 u69 u70 u71 u72 u73 u74 u75 u76 u77 u78 u79 u80 u81 u82 u83 u84 u85 u86 u87 u88 u89 u90 u91 u92 u93 u94 u95 u96 u97 u98 u99 u100 u101 u102 u103 u104 u105 u106 u107 u108 u109 u110 u111 u112 u113 u114 u115 u116 u117 u118 u119 u120 u121 u122 u123 u124 u125 u126 u127 u128 u129 u130 u131 u132 u133 u134 u135 u136 u137 u138 u139 u140 u141 u142 u143 u144 u145 u146 u147 u148 u149 u150 u151 u152 u153 u154 u155 u156 u157 u158 u159 u160 u161 u162 u163 u164 u165 u166 u167 u168 u169 u170 u171 u172 u173 u174 u175 u176 u177 u178 u179 u180 u181 u182 u183 u184 u185 u186 u187 u188 u189 u190 u191 u192 u193 u194 u195 u196 u197 u198 u199 u200 u201 u202 u203 u204 u205 u206 u207 u208 u209 u210 u211 u212 u213 u214 u215 u216 u217 u218 u219 u220 u221 u222 u223 u224 u225 u226 u227 u228 u229 u230 u231 u232 u233 u234 u235 u236 u237 u238 u239 u240 u241 u242 u243 u244 u245 u246 u247 u248 u249 u250 u251 u252 u253 u254 u255 u256 u257 u258 u259 u260 u261 u262 u263 u264 u265 u266 u267 u268 u269 u270 u271 u272 u273 u274 u275 u276 u277 u278 u279 u280 u281 u282 u283 u284 u285 u286 u287 u288 u289 u290 u291 u292 u293 u294 u295 u296 u297 u298 u299 u300 u301 u302 u303 u304 u305 u306 u307 u308 u309 u310 u311 u312 u313 u314 u315 u316 u317 u318 u319 u320 u321 u322 u323 u324 u325 u326 u327 u328 u329 u330 u331 u332 u333 u334 u335 u336 u337 u338 u339 u340 u341 u342 u343 u344 u345 u346 u347 u348 : Value} (w0 wa : World) (hb : Below w0.heap.size w0 wa) (a0 a1 a2 a3 a4 : Option Addr) (l0 l1 l3 c0 c1 c2 c3 c4 p gs : Nat) (Z1 Z2 Z3 Z4 : Nat → Int) (g0 : l0 ≤ 262144) (g1 : l1 ≤ 262144) (g3 : l3 ≤ 262144) (hp : (l0 : Int) - 1 = (p : Int)) (r1 : RowI .i32 wa a1 l1 Z1) (r2 : RowI .u8 wa a2 l1 Z2) (r3 : RowI .i32 wa a3 l3 Z3) (r4 : RowI .u8 wa a4 l3 Z4) (hs1 : wa.cell? ⟨gs, p, none⟩ = some (.int .i32 (l1 : Int))) (hs2 : wa.cell? ⟨gs, l0, none⟩ = some (.int .i32 ((l1 : Int) + (l3 : Int)))) : Code.wp Try.prog (TAIL Try.f3 16) (bodyPost Try.prog Try.f3 (Good w0)) ⟨#[.slice a0 l0 c0, .slice a1 l1 c1, .slice a2 l1 c2, .slice a3 l3 c3, .slice a4 l3 c4, u5, u6, u7, u8, u9, u10, u11, u12, u13, u14, u15, u16, u17, .slice (some ⟨gs, 0, none⟩) (l0 + 1) (l0 + 1), u19, u20, u21, u22, u23, u24, u25, u26, u27, u28, u29, u30, u31, u32, u33, u34, u35, u36, u37, u38, u39, u40, u41, u42, u43, u44, u45, u46, u47, u48, u49, u50, u51, u52, u53, u54, u55, u56, u57, u58, u59, u60, u61, u62, u63, u64, u65, u66, u67, u68, u69, u70, u71, u72, u73, u74, u75, u76, u77, u78, u79, u80, u81, u82, u83, u84, u85, u86, u87, u88, u89, u90, u91, u92, u93, u94, u95, u96, u97, u98, u99, u100, u101, u102, u103, u104, u105, u106, u107, u108, u109, u110, u111, u112, u113, u114, u115, u116, u117, u118, u119, u120, u121, u122, u123, u124, u125, u126, u127, u128, u129, u130, u131, u132, u133, u134, u135, u136, u137, u138, u139, u140, u141, u142, u143, u144, u145, u146, u147, u148, u149, u150, u151, u152, u153, u154, u155, u156, u157, u158, u159, u160, u161, u162, u163, u164, u165, u166, u167, u168, u169, u170, u171, u172, u173, u174, u175, u176, u177, u178, u179, u180, u181, u182, u183, u184, u185, u186, u187, u188, u189, u190, u191, u192, u193, u194, u195, u196, u197, u198, u199, u200, u201, u202, u203, u204, u205, u206, u207, u208, u209, u210, u211, u212, u213, u214, u215, u216, u217, u218, u219, u220, u221, u222, u223, u224, u225, u226, u227, u228, u229, u230, u231, u232, u233, u234, u235, u236, u237, u238, u239, u240, u241, u242, u243, u244, u245, u246, u247, u248, u249, u250, u251, u252, u253, u254, u255, u256, u257, u258, u259, u260, u261, u262, u263, u264, u265, u266, u267, u268, u269, u270, u271, u272, u273, u274, u275, u276, u277, u278, u279, u280, u281, u282, u283, u284, u285, u286, u287, u288, u289, u290, u291, u292, u293, u294, u295, u296, u297, u298, u299, u300, u301, u302, u303, u304, u305, u306, u307, u308, u309, u310, u311, u312, u313, u314, u315, u316, u317, u318, u319, u320, u321, u322, u323, u324, u325, u326, u327, u328, u329, u330, u331, u332, u333, u334, u335, u336, u337, u338, u339, u340, u341, u342, u343, u344, u345, u346, u347, u348], []⟩ wa := by
  have HB := hid hb
  have R1 := hid r1
  have R2 := hid r2
  have R3 := hid r3
  have R4 := hid r4
  have HS1 := hid hs1
  have HS2 := hid hs2
  have HP := hid hp
  clear hb r1 r2 r3 r4 hs1 hs2 hp
  have hmk1 := run_make_row' (P := Try.prog) 22 21 (.int .i32 0) 4 Try.underlying22 Try.info21 rfl .i64 .i64 (l1 + l3) (by omega) (by omega)
  have hmk2 := run_make_row' (P := Try.prog) 23 5 (.int .u8 0) 1 Try.underlying23 Try.info5 rfl .i64 .i64 (l1 + l3) (by omega) (by omega)
  rw [Int.natCast_add] at hmk1 hmk2
  rw [show TAIL Try.f3 16 = .seq (headS (TAIL Try.f3 16)) (.seq (headS (TAIL Try.f3 17)) (TAIL Try.f3 18)) from rfl]
  conv => arg 2; arg 1; whnf
  conv => arg 2; arg 2; arg 1; whnf
  go_wp2_with fail
  have hbl : Below wa.heap.size wa ((wa.alloc (.cells (madeCells #[.int .i32 0] (l1 + l3)) 21)).alloc (.cells (madeCells #[.int .u8 0] (l1 + l3)) 5)) := ((Below.refl _ _).alloc (Nat.le_refl _) _).alloc (by simp) _
  have hG := World.rowIs_made (wa.alloc (.cells (madeCells #[.int .i32 0] (l1 + l3)) 21)) (.int .u8 0) (l1 + l3) 5
  rw [World.size_alloc] at hG
  exact t18 w0 wa _ HB.out hbl a0 a1 a2 a3 a4 l0 l1 l3 c0 c1 c2 c3 c4 p gs Z1 Z2 Z3 Z4 _ _ g0 g1 g3 HP.out R1.out R2.out R3.out R4.out HS1.out HS2.out ((World.rowIs_made wa (.int .i32 0) (l1 + l3) 21).alloc _) hG


set_option maxRecDepth 1000000 in
set_option maxHeartbeats 4000000 in
theorem t15 {u5 u6 u7 u8 u9 u10 u11 u12 u13 u14 u15 u16 u17 u19 u20 u21 u22 u23 u24 u25 u26 u27 u28 u29 u30 u31 u32 u33 u34 u35 u36 u37 u38 u39 u40 u41 u42 u43 u44 u45 u46 u47 u48 u49 u50 u51 u52 u53 u54 u55 u56 u57 u58 u59 u60 u61 u62 u63 u64 u65 u66 u67 u68 u69 u70 u71 u72 u73 u74 u75 u76 u77 u78 u79 u80 u81 u82 u83 u84 u85 u86 u87 u88 u89 u90 u91 u92 u93 u94 u95 u96 u97 u98 u99 u100 u101 u102 u103 u104 u105 u106 u107 u108 u109 u110 u111 u112 u113 u114 u115 u116 u117 u118 u119 u120 u121 u122 u123 u124 u125 u126 u127 u128 u129 u130 u131 u132 u133 u134 u135 u136 u137 u138 u139 u140 u141 u142 u143 u144 u145 u146 u147 u148 u149 u150 u151 u152 u153 u154 u155 u156 u157 u158 u159 u160 u161 u162 u163 u164 u165 u166 u167 u168 u169 u170 u171 u172 u173 u174 u175 u176 u177 u178 u179 u180 u181 u182 u183 u184 u185 u186 u187 u188 u189 u190 u191 u192 u193 u194 u195 u196 u197 u198 u199 u200 u201 u202 u203 u204 u205 u206 u207 u208 u209 u210 u211 u212 u213 u214 u215 u216 u217 u218 u219 u220 u221 u222 u223 u224 u225 u226 u227 u228 u229 u230 u231 u232 u233 u234 u235 u236 u237 u238 u239 u240 u241 u242 u243 u244 u245 u246 u247 u248 u249 u250 u251 u252 u253 u254 u255 u256 u257 u258 u259 u260 u261 u262 u263 u264 u265 u266 u267 u268 u269 u270 u271 u272 u273 u274 u275 u276 u277 u278 u279 u280 u281 u282 u283 u284 u285 u286 u287 u288 u289 u290 u291 u292 u293 u294 u295 u296 u297 u298 u299 u300 u301 u302 u303 u304 u305 u306 u307 u308 u309 u310 u311 u312 u313 u314 u315 u316 u317 u318 u319 u320 u321 u322 u323 u324 u325 u326 u327 u328 u329 u330 u331 u332 u333 u334 u335 u336 u337 u338 u339 u340 u341 u342 u343 u344 u345 u346 u347 u348 : Value} (w0 w2 wa : World) (hb : Below w0.heap.size w0 w2) (hb2 : Below w2.heap.size w2 wa) (a0 a1 a2 a3 a4 : Option Addr) (l0 l1 l3 c0 c1 c2 c3 c4 p : Nat) (Z1 Z2 Z3 Z4 : Nat → Int) (F : Nat → Value) (g0 : l0 ≤ 262144) (g1 : l1 ≤ 262144) (g3 : l3 ≤ 262144) (hp : (l0 : Int) - 1 = (p : Int)) (r1 : RowI .i32 w2 a1 l1 Z1) (r2 : RowI .u8 w2 a2 l1 Z2) (r3 : RowI .i32 w2 a3 l3 Z3) (r4 : RowI .u8 w2 a4 l3 Z4) (hF : wa.rowIs w2.heap.size 21 (l0 + 1) F) (hFp : F p = .int .i32 (l1 : Int)) : Code.wp Try.prog (TAIL Try.f3 15) (bodyPost Try.prog Try.f3 (Good w0)) ⟨#[.slice a0 l0 c0, .slice a1 l1 c1, .slice a2 l1 c2, .slice a3 l3 c3, .slice a4 l3 c4, u5, u6, u7, u8, u9, u10, u11, u12, u13, u14, u15, u16, u17, .slice (some ⟨w2.heap.size, 0, none⟩) (l0 + 1) (l0 + 1), u19, u20, u21, u22, u23, u24, u25, u26, u27, u28, u29, u30, u31, u32, u33, u34, u35, u36, u37, u38, u39, u40, u41, u42, u43, u44, u45, u46, u47, u48, u49, u50, u51, u52, u53, u54, u55, u56, u57, u58, u59, u60, u61, u62, u63, u64, u65, u66, u67, u68, u69, u70, u71, u72, u73, u74, u75, u76, u77, u78, u79, u80, u81, u82, u83, u84, u85, u86, u87, u88, u89, u90, u91, u92, u93, u94, u95, u96, u97, u98, u99, u100, u101, u102, u103, u104, u105, u106, u107, u108, u109, u110, u111, u112, u113, u114, u115, u116, u117, u118, u119, u120, u121, u122, u123, u124, u125, u126, u127, u128, u129, u130, u131, u132, u133, u134, u135, u136, u137, u138, u139, u140, u141, u142, u143, u144, u145, u146, u147, u148, u149, u150, u151, u152, u153, u154, u155, u156, u157, u158, u159, u160, u161, u162, u163, u164, u165, u166, u167, u168, u169, u170, u171, u172, u173, u174, u175, u176, u177, u178, u179, u180, u181, u182, u183, u184, u185, u186, u187, u188, u189, u190, u191, u192, u193, u194, u195, u196, u197, u198, u199, u200, u201, u202, u203, u204, u205, u206, u207, u208, u209, u210, u211, u212, u213, u214, u215, u216, u217, u218, u219, u220, u221, u222, u223, u224, u225, u226, u227, u228, u229, u230, u231, u232, u233, u234, u235, u236, u237, u238, u239, u240, u241, u242, u243, u244, u245, u246, u247, u248, u249, u250, u251, u252, u253, u254, u255, u256, u257, u258, u259, u260, u261, u262, u263, u264, u265, u266, u267, u268, u269, u270, u271, u272, u273, u274, u275, u276, u277, u278, u279, u280, u281, u282, u283, u284, u285, u286, u287, u288, u289, u290, u291, u292, u293, u294, u295, u296, u297, u298, u299, u300, u301, u302, u303, u304, u305, u306, u307, u308, u309, u310, u311, u312, u313, u314, u315, u316, u317, u318, u319, u320, u321, u322, u323, u324, u325, u326, u327, u328, u329, u330, u331, u332, u333, u334, u335, u336, u337, u338, u339, u340, u341, u342, u343, u344, u345, u346, u347, u348], []⟩ wa := by
  have HB := hid hb
  have HB2 := hid hb2
  have R1 := hid r1
  have R2 := hid r2
  have R3 := hid r3
  have R4 := hid r4
  have HP := hid hp
  have HF := hid hF
  have HFP := hid hFp
  clear hb hb2 r1 r2 r3 r4 hp hF hFp
  have x1 := HF.out.cell (i := l0) (by omega)
  have x2 := HF.out.frozen l0
  generalize F l0 = f at *
  rw [show TAIL Try.f3 15 = .seq (headS (TAIL Try.f3 15)) (TAIL Try.f3 16) from rfl]
  conv => arg 2; arg 1; whnf
  go_wp2_with fail
  have hl : p < l0 := by have := HP.out; omega
  have hbl := HB2.out.setCell (p := ⟨w2.heap.size, l0, none⟩) (Nat.le_refl _) (.int .i32 ((l1 : Int) + (l3 : Int)))
  have hrow := HF.out.set l0 (.int .i32 ((l1 : Int) + (l3 : Int)))
  exact t16 w0 _ (HB.out.trans (hbl.mono HB.out.size)) a0 a1 a2 a3 a4 l0 l1 l3 c0 c1 c2 c3 c4 p w2.heap.size Z1 Z2 Z3 Z4 g0 g1 g3 HP.out (R1.out.later hbl) (R2.out.later hbl) (R3.out.later hbl) (R4.out.later hbl) (by rw [hrow.cell (i := p) (by omega), if_neg (by omega), HFP.out]) (by rw [hrow.cell (i := l0) (by omega), if_pos rfl])


set_option maxRecDepth 1000000 in
set_option maxHeartbeats 4000000 in
theorem t14 {u5 u6 u7 u8 u9 u10 u11 u12 u13 u14 u15 u16 u17 u19 u20 u21 u22 u23 u24 u25 u26 u27 u28 u29 u30 u31 u32 u33 u34 u35 u36 u37 u38 u39 u40 u41 u42 u43 u44 u45 u46 u47 u48 u49 u50 u51 u52 u53 u54 u55 u56 u57 u58 u59 u60 u61 u62 u63 u64 u65 u66 u67 u68 u69 u70 u71 u72 u73 u74 u75 u76 u77 u78 u79 u80 u81 u82 u83 u84 u85 u86 u87 u88 u89 u90 u91 u92 u93 u94 u95 u96 u97 u98 u99 u100 u101 u102 u103 u104 u105 u106 u107 u108 u109 u110 u111 u112 u113 u114 u115 u116 u117 u118 u119 u120 u121 u122 u123 u124 u125 u126 u127 u128 u129 u130 u131 u132 u133 u134 u135 u136 u137 u138 u139 u140 u141 u142 u143 u144 u145 u146 u147 u148 u149 u150 u151 u152 u153 u154 u155 u156 u157 u158 u159 u160 u161 u162 u163 u164 u165 u166 u167 u168 u169 u170 u171 u172 u173 u174 u175 u176 u177 u178 u179 u180 u181 u182 u183 u184 u185 u186 u187 u188 u189 u190 u191 u192 u193 u194 u195 u196 u197 u198 u199 u200 u201 u202 u203 u204 u205 u206 u207 u208 u209 u210 u211 u212 u213 u214 u215 u216 u217 u218 u219 u220 u221 u222 u223 u224 u225 u226 u227 u228 u229 u230 u231 u232 u233 u234 u235 u236 u237 u238 u239 u240 u241 u242 u243 u244 u245 u246 u247 u248 u249 u250 u251 u252 u253 u254 u255 u256 u257 u258 u259 u260 u261 u262 u263 u264 u265 u266 u267 u268 u269 u270 u271 u272 u273 u274 u275 u276 u277 u278 u279 u280 u281 u282 u283 u284 u285 u286 u287 u288 u289 u290 u291 u292 u293 u294 u295 u296 u297 u298 u299 u300 u301 u302 u303 u304 u305 u306 u307 u308 u309 u310 u311 u312 u313 u314 u315 u316 u317 u318 u319 u320 u321 u322 u323 u324 u325 u326 u327 u328 u329 u330 u331 u332 u333 u334 u335 u336 u337 u338 u339 u340 u341 u342 u343 u344 u345 u346 u347 u348 : Value} (w0 w2 wa : World) (hb : Below w0.heap.size w0 w2) (hb2 : Below w2.heap.size w2 wa) (a0 a1 a2 a3 a4 : Option Addr) (l0 l1 l3 c0 c1 c2 c3 c4 p : Nat) (Z0 Z1 Z2 Z3 Z4 : Nat → Int) (F : Nat → Value) (g0 : l0 ≤ 262144) (g1 : l1 ≤ 262144) (g3 : l3 ≤ 262144) (hp : (l0 : Int) - 1 = (p : Int)) (r0 : RowI .i32 w2 a0 l0 Z0) (hz0 : Z0 p = (l1 : Int)) (r1 : RowI .i32 w2 a1 l1 Z1) (r2 : RowI .u8 w2 a2 l1 Z2) (r3 : RowI .i32 w2 a3 l3 Z3) (r4 : RowI .u8 w2 a4 l3 Z4) (hF : wa.rowIs w2.heap.size 21 (l0 + 1) F) : Code.wp Try.prog (TAIL Try.f3 14) (bodyPost Try.prog Try.f3 (Good w0)) ⟨#[.slice a0 l0 c0, .slice a1 l1 c1, .slice a2 l1 c2, .slice a3 l3 c3, .slice a4 l3 c4, u5, u6, u7, u8, u9, u10, u11, u12, u13, u14, u15, u16, u17, .slice (some ⟨w2.heap.size, 0, none⟩) (l0 + 1) (l0 + 1), u19, u20, u21, u22, u23, u24, u25, u26, u27, u28, u29, u30, u31, u32, u33, u34, u35, u36, u37, u38, u39, u40, u41, u42, u43, u44, u45, u46, u47, u48, u49, u50, u51, u52, u53, u54, u55, u56, u57, u58, u59, u60, u61, u62, u63, u64, u65, u66, u67, u68, u69, u70, u71, u72, u73, u74, u75, u76, u77, u78, u79, u80, u81, u82, u83, u84, u85, u86, u87, u88, u89, u90, u91, u92, u93, u94, u95, u96, u97, u98, u99, u100, u101, u102, u103, u104, u105, u106, u107, u108, u109, u110, u111, u112, u113, u114, u115, u116, u117, u118, u119, u120, u121, u122, u123, u124, u125, u126, u127, u128, u129, u130, u131, u132, u133, u134, u135, u136, u137, u138, u139, u140, u141, u142, u143, u144, u145, u146, u147, u148, u149, u150, u151, u152, u153, u154, u155, u156, u157, u158, u159, u160, u161, u162, u163, u164, u165, u166, u167, u168, u169, u170, u171, u172, u173, u174, u175, u176, u177, u178, u179, u180, u181, u182, u183, u184, u185, u186, u187, u188, u189, u190, u191, u192, u193, u194, u195, u196, u197, u198, u199, u200, u201, u202, u203, u204, u205, u206, u207, u208, u209, u210, u211, u212, u213, u214, u215, u216, u217, u218, u219, u220, u221, u222, u223, u224, u225, u226, u227, u228, u229, u230, u231, u232, u233, u234, u235, u236, u237, u238, u239, u240, u241, u242, u243, u244, u245, u246, u247, u248, u249, u250, u251, u252, u253, u254, u255, u256, u257, u258, u259, u260, u261, u262, u263, u264, u265, u266, u267, u268, u269, u270, u271, u272, u273, u274, u275, u276, u277, u278, u279, u280, u281, u282, u283, u284, u285, u286, u287, u288, u289, u290, u291, u292, u293, u294, u295, u296, u297, u298, u299, u300, u301, u302, u303, u304, u305, u306, u307, u308, u309, u310, u311, u312, u313, u314, u315, u316, u317, u318, u319, u320, u321, u322, u323, u324, u325, u326, u327, u328, u329, u330, u331, u332, u333, u334, u335, u336, u337, u338, u339, u340, u341, u342, u343, u344, u345, u346, u347, u348], []⟩ wa := by
  have HB := hid hb
  have HB2 := hid hb2
  have R0 := hid r0
  have HZ := hid hz0
  have R1 := hid r1
  have R2 := hid r2
  have R3 := hid r3
  have R4 := hid r4
  have HP := hid hp
  have HF := hid hF
  clear hb hb2 r0 hz0 r1 r2 r3 r4 hp hF
  rw [show TAIL Try.f3 14 = .seq (headS (TAIL Try.f3 14)) (TAIL Try.f3 15) from rfl]
  conv => arg 2; arg 1; whnf
  go_wp2_with fail
  go_loopw [19] (fun e w' => ∃ k : Nat, k ≤ l0 ∧ e = .int .i64 k ∧ Hid (∃ F', Below w2.heap.size w2 w' ∧ w'.rowIs w2.heap.size 21 (l0 + 1) F' ∧ ∀ j, j < k → F' j = .int .i32 (Z0 j))) (fun e _ => l0 - (intOf e).toNat)
  case atStart => exact ⟨0, Nat.zero_le _, rfl, F, HB2.out, HF.out, fun j hj => by omega⟩
  case round =>
    obtain ⟨k, hk, rfl, hq⟩ := hrel
    obtain ⟨F', hb', hF', hc'⟩ := hq.out
    by_cases hlt : k < l0
    · obtain ⟨b3, o3, rfl, q3⟩ := R0.out.later hb' k hlt
      have hb3 : b3 < w2.heap.size := by obtain ⟨_, _, e, h⟩ := R0.out k hlt; cases e; exact World.block_lt_of_cell? _ _ h
      have x1 := hF'.cell (i := k) (by omega)
      have x2 := hF'.frozen k
      have HB' := hid hb'
      have HF' := hid hF'
      have HC' := hid hc'
      clear hb' hF' hc' hb3
      generalize F' k = f1 at *
      go_wp2_with fail
      go_roundw
      case rel =>
        refine ⟨k + 1, by omega, by go_num, _, HB'.out.setCell (Nat.le_refl _) _, HF'.out.set k _, fun j hj => ?_⟩
        by_cases e : j = k
        · subst e; simp
        · rw [if_neg e]; exact HC'.out j (by omega)
      case measure => simp [intOf]; omega
    · go_wp2_with fail
      have hl : p < k := by have := HP.out; omega
      exact t15 w0 w2 _ HB.out hb' a0 a1 a2 a3 a4 l0 l1 l3 c0 c1 c2 c3 c4 p Z1 Z2 Z3 Z4 F' g0 g1 g3 HP.out R1.out R2.out R3.out R4.out hF' (by rw [hc' p hl, HZ.out])


set_option maxRecDepth 1000000 in
set_option maxHeartbeats 4000000 in
theorem t13 {u5 u6 u7 u8 u9 u10 u11 u12 u13 u14 u15 u16 u17 u18 u19 u20 u21 u22 u23 u24 u25 u26 u27 u28 u29 u30 u31 u32 u33 u34 u35 u36 u37 u38 u39 u40 u41 u42 u43 u44 u45 u46 u47 u48 u49 u50 u51 u52 u53 u54 u55 u56 u57 u58 u59 u60 u61 u62 u63 u64 u65 u66 u67 u68 u69 u70 u71 u72 u73 u74 u75 u76 u77 u78 u79 u80 u81 u82 u83 u84 u85 u86 u87 u88 u89 u90 u91 u92 u93 u94 u95 u96 u97 u98 u99 u100 u101 u102 u103 u104 u105 u106 u107 u108 u109 u110 u111 u112 u113 u114 u115 u116 u117 u118 u119 u120 u121 u122 u123 u124 u125 u126 u127 u128 u129 u130 u131 u132 u133 u134 u135 u136 u137 u138 u139 u140 u141 u142 u143 u144 u145 u146 u147 u148 u149 u150 u151 u152 u153 u154 u155 u156 u157 u158 u159 u160 u161 u162 u163 u164 u165 u166 u167 u168 u169 u170 u171 u172 u173 u174 u175 u176 u177 u178 u179 u180 u181 u182 u183 u184 u185 u186 u187 u188 u189 u190 u191 u192 u193 u194 u195 u196 u197 u198 u199 u200 u201 u202 u203 u204 u205 u206 u207 u208 u209 u210 u211 u212 u213 u214 u215 u216 u217 u218 u219 u220 u221 u222 u223 u224 u225 u226 u227 u228 u229 u230 u231 u232 u233 u234 u235 u236 u237 u238 u239 u240 u241 u242 u243 u244 u245 u246 u247 u248 u249 u250 u251 u252 u253 u254 u255 u256 u257 u258 u259 u260 u261 u262 u263 u264 u265 u266 u267 u268 u269 u270 u271 u272 u273 u274 u275 u276 u277 u278 u279 u280 u281 u282 u283 u284 u285 u286 u287 u288 u289 u290 u291 u292 u293 u294 u295 u296 u297 u298 u299 u300 u301 u302 u303 u304 u305 u306 u307 u308 u309 u310 u311 u312 u313 u314 u315 u316 u317 u318 u319 u320 u321 u322 u323 u324 u325 u326 u327 u328 u329 u330 u331 u332 u333 u334 u335 u336 u337 u338 u339 u340 u341 u342 u343 u344 u345 u346 u347 u348 : Value} (w0 wa : World) (hb : Below w0.heap.size w0 wa) (a0 a1 a2 a3 a4 : Option Addr) (l0 l1 l3 c0 c1 c2 c3 c4 p : Nat) (Z0 Z1 Z2 Z3 Z4 : Nat → Int) (g0 : l0 ≤ 262144) (g1 : l1 ≤ 262144) (g3 : l3 ≤ 262144) (hp : (l0 : Int) - 1 = (p : Int)) (r0 : RowI .i32 wa a0 l0 Z0) (hz0 : Z0 p = (l1 : Int)) (r1 : RowI .i32 wa a1 l1 Z1) (r2 : RowI .u8 wa a2 l1 Z2) (r3 : RowI .i32 wa a3 l3 Z3) (r4 : RowI .u8 wa a4 l3 Z4) : Code.wp Try.prog (TAIL Try.f3 13) (bodyPost Try.prog Try.f3 (Good w0)) ⟨#[.slice a0 l0 c0, .slice a1 l1 c1, .slice a2 l1 c2, .slice a3 l3 c3, .slice a4 l3 c4, u5, u6, u7, u8, u9, u10, u11, u12, u13, u14, u15, u16, u17, u18, u19, u20, u21, u22, u23, u24, u25, u26, u27, u28, u29, u30, u31, u32, u33, u34, u35, u36, u37, u38, u39, u40, u41, u42, u43, u44, u45, u46, u47, u48, u49, u50, u51, u52, u53, u54, u55, u56, u57, u58, u59, u60, u61, u62, u63, u64, u65, u66, u67, u68, u69, u70, u71, u72, u73, u74, u75, u76, u77, u78, u79, u80, u81, u82, u83, u84, u85, u86, u87, u88, u89, u90, u91, u92, u93, u94, u95, u96, u97, u98, u99, u100, u101, u102, u103, u104, u105, u106, u107, u108, u109, u110, u111, u112, u113, u114, u115, u116, u117, u118, u119, u120, u121, u122, u123, u124, u125, u126, u127, u128, u129, u130, u131, u132, u133, u134, u135, u136, u137, u138, u139, u140, u141, u142, u143, u144, u145, u146, u147, u148, u149, u150, u151, u152, u153, u154, u155, u156, u157, u158, u159, u160, u161, u162, u163, u164, u165, u166, u167, u168, u169, u170, u171, u172, u173, u174, u175, u176, u177, u178, u179, u180, u181, u182, u183, u184, u185, u186, u187, u188, u189, u190, u191, u192, u193, u194, u195, u196, u197, u198, u199, u200, u201, u202, u203, u204, u205, u206, u207, u208, u209, u210, u211, u212, u213, u214, u215, u216, u217, u218, u219, u220, u221, u222, u223, u224, u225, u226, u227, u228, u229, u230, u231, u232, u233, u234, u235, u236, u237, u238, u239, u240, u241, u242, u243, u244, u245, u246, u247, u248, u249, u250, u251, u252, u253, u254, u255, u256, u257, u258, u259, u260, u261, u262, u263, u264, u265, u266, u267, u268, u269, u270, u271, u272, u273, u274, u275, u276, u277, u278, u279, u280, u281, u282, u283, u284, u285, u286, u287, u288, u289, u290, u291, u292, u293, u294, u295, u296, u297, u298, u299, u300, u301, u302, u303, u304, u305, u306, u307, u308, u309, u310, u311, u312, u313, u314, u315, u316, u317, u318, u319, u320, u321, u322, u323, u324, u325, u326, u327, u328, u329, u330, u331, u332, u333, u334, u335, u336, u337, u338, u339, u340, u341, u342, u343, u344, u345, u346, u347, u348], []⟩ wa := by
  have HB := hid hb
  have R0 := hid r0
  have HZ := hid hz0
  have R1 := hid r1
  have R2 := hid r2
  have R3 := hid r3
  have R4 := hid r4
  have HP := hid hp
  clear hb r0 hz0 r1 r2 r3 r4 hp
  have hmk1 := run_make_row' (P := Try.prog) 22 21 (.int .i32 0) 4 Try.underlying22 Try.info21 rfl .i64 .i64 (l0 + 1) (by omega) (by omega)
  rw [show ((l0 + 1 : Nat) : Int) = (l0 : Int) + 1 from by omega] at hmk1
  rw [show TAIL Try.f3 13 = .seq (headS (TAIL Try.f3 13)) (TAIL Try.f3 14) from rfl]
  conv => arg 2; arg 1; whnf
  go_wp2_with fail
  exact t14 w0 wa _ HB.out ((Below.refl _ _).alloc (Nat.le_refl _) _) a0 a1 a2 a3 a4 l0 l1 l3 c0 c1 c2 c3 c4 p Z0 Z1 Z2 Z3 Z4 _ g0 g1 g3 HP.out R0.out HZ.out R1.out R2.out R3.out R4.out (World.rowIs_made wa (.int .i32 0) (l0 + 1) 21)


set_option maxRecDepth 1000000 in
set_option maxHeartbeats 4000000 in
theorem t12 {u5 u6 u7 u8 u9 u10 u11 u12 u13 u14 u16 u17 u18 u19 u20 u21 u22 u23 u24 u25 u26 u27 u28 u29 u30 u31 u32 u33 u34 u35 u36 u37 u38 u39 u40 u41 u42 u43 u44 u45 u46 u47 u48 u49 u50 u51 u52 u53 u54 u55 u56 u57 u58 u59 u60 u61 u62 u63 u64 u65 u66 u67 u68 u69 u70 u71 u72 u73 u74 u75 u76 u77 u78 u79 u80 u81 u82 u83 u84 u85 u86 u87 u88 u89 u90 u91 u92 u93 u94 u95 u96 u97 u98 u99 u100 u101 u102 u103 u104 u105 u106 u107 u108 u109 u110 u111 u112 u113 u114 u115 u116 u117 u118 u119 u120 u121 u122 u123 u124 u125 u126 u127 u128 u129 u130 u131 u132 u133 u134 u135 u136 u137 u138 u139 u140 u141 u142 u143 u144 u145 u146 u147 u148 u149 u150 u151 u152 u153 u154 u155 u156 u157 u158 u159 u160 u161 u162 u163 u164 u165 u166 u167 u168 u169 u170 u171 u172 u173 u174 u175 u176 u177 u178 u179 u180 u181 u182 u183 u184 u185 u186 u187 u188 u189 u190 u191 u192 u193 u194 u195 u196 u197 u198 u199 u200 u201 u202 u203 u204 u205 u206 u207 u208 u209 u210 u211 u212 u213 u214 u215 u216 u217 u218 u219 u220 u221 u222 u223 u224 u225 u226 u227 u228 u229 u230 u231 u232 u233 u234 u235 u236 u237 u238 u239 u240 u241 u242 u243 u244 u245 u246 u247 u248 u249 u250 u251 u252 u253 u254 u255 u256 u257 u258 u259 u260 u261 u262 u263 u264 u265 u266 u267 u268 u269 u270 u271 u272 u273 u274 u275 u276 u277 u278 u279 u280 u281 u282 u283 u284 u285 u286 u287 u288 u289 u290 u291 u292 u293 u294 u295 u296 u297 u298 u299 u300 u301 u302 u303 u304 u305 u306 u307 u308 u309 u310 u311 u312 u313 u314 u315 u316 u317 u318 u319 u320 u321 u322 u323 u324 u325 u326 u327 u328 u329 u330 u331 u332 u333 u334 u335 u336 u337 u338 u339 u340 u341 u342 u343 u344 u345 u346 u347 u348 : Value} (w0 wa : World) (hb : Below w0.heap.size w0 wa) (a0 a1 a2 a3 a4 : Option Addr) (l0 l1 l3 c0 c1 c2 c3 c4 p : Nat) (Z0 Z1 Z2 Z3 Z4 : Nat → Int) (g0 : l0 ≤ 262144) (g1 : l1 ≤ 262144) (g3 : l3 ≤ 262144) (hp : (l0 : Int) - 1 = (p : Int)) (r0 : RowI .i32 wa a0 l0 Z0) (hz0 : Z0 p = (l1 : Int)) (r1 : RowI .i32 wa a1 l1 Z1) (r2 : RowI .u8 wa a2 l1 Z2) (r3 : RowI .i32 wa a3 l3 Z3) (r4 : RowI .u8 wa a4 l3 Z4) (hz : ∀ i, i < l3 → -2147483648 ≤ Z3 i ∧ Z3 i ≤ 2147483647) : Code.wp Try.prog (TAIL Try.f3 12) (bodyPost Try.prog Try.f3 (Good w0)) ⟨#[.slice a0 l0 c0, .slice a1 l1 c1, .slice a2 l1 c2, .slice a3 l3 c3, .slice a4 l3 c4, u5, u6, u7, u8, u9, u10, u11, u12, u13, u14, .int .i64 (p : Int), u16, u17, u18, u19, u20, u21, u22, u23, u24, u25, u26, u27, u28, u29, u30, u31, u32, u33, u34, u35, u36, u37, u38, u39, u40, u41, u42, u43, u44, u45, u46, u47, u48, u49, u50, u51, u52, u53, u54, u55, u56, u57, u58, u59, u60, u61, u62, u63, u64, u65, u66, u67, u68, u69, u70, u71, u72, u73, u74, u75, u76, u77, u78, u79, u80, u81, u82, u83, u84, u85, u86, u87, u88, u89, u90, u91, u92, u93, u94, u95, u96, u97, u98, u99, u100, u101, u102, u103, u104, u105, u106, u107, u108, u109, u110, u111, u112, u113, u114, u115, u116, u117, u118, u119, u120, u121, u122, u123, u124, u125, u126, u127, u128, u129, u130, u131, u132, u133, u134, u135, u136, u137, u138, u139, u140, u141, u142, u143, u144, u145, u146, u147, u148, u149, u150, u151, u152, u153, u154, u155, u156, u157, u158, u159, u160, u161, u162, u163, u164, u165, u166, u167, u168, u169, u170, u171, u172, u173, u174, u175, u176, u177, u178, u179, u180, u181, u182, u183, u184, u185, u186, u187, u188, u189, u190, u191, u192, u193, u194, u195, u196, u197, u198, u199, u200, u201, u202, u203, u204, u205, u206, u207, u208, u209, u210, u211, u212, u213, u214, u215, u216, u217, u218, u219, u220, u221, u222, u223, u224, u225, u226, u227, u228, u229, u230, u231, u232, u233, u234, u235, u236, u237, u238, u239, u240, u241, u242, u243, u244, u245, u246, u247, u248, u249, u250, u251, u252, u253, u254, u255, u256, u257, u258, u259, u260, u261, u262, u263, u264, u265, u266, u267, u268, u269, u270, u271, u272, u273, u274, u275, u276, u277, u278, u279, u280, u281, u282, u283, u284, u285, u286, u287, u288, u289, u290, u291, u292, u293, u294, u295, u296, u297, u298, u299, u300, u301, u302, u303, u304, u305, u306, u307, u308, u309, u310, u311, u312, u313, u314, u315, u316, u317, u318, u319, u320, u321, u322, u323, u324, u325, u326, u327, u328, u329, u330, u331, u332, u333, u334, u335, u336, u337, u338, u339, u340, u341, u342, u343, u344, u345, u346, u347, u348], []⟩ wa := by
  have HB := hid hb
  have R0 := hid r0
  have HZ := hid hz0
  have R1 := hid r1
  have R2 := hid r2
  have R3 := hid r3
  have R4 := hid r4
  have HP := hid hp
  clear hb r0 hz0 r1 r2 r3 r4 hp
  have Y3 := hid hz
  clear hz
  rw [show TAIL Try.f3 12 = .seq (headS (TAIL Try.f3 12)) (TAIL Try.f3 13) from rfl]
  conv => arg 2; arg 1; whnf
  go_wp2_with fail
  go_loop [17] (fun e => ∃ k : Nat, k ≤ l3 ∧ e = .int .i64 k) (fun e => l3 - (intOf e).toNat)
  case atStart => exact ⟨0, Nat.zero_le _, rfl⟩
  case round =>
    obtain ⟨k, hk, rfl⟩ := hrel
    by_cases hlt : k < l3
    · obtain ⟨b3, o3, rfl, q3⟩ := R3.out k hlt
      obtain ⟨z1, z2⟩ := Y3.out k hlt
      generalize Z3 k = z at *
      by_cases e1 : z < 0
      · go_wp2_with fail
        all_goals try go_big_false
        all_goals (go_ret; exact ⟨rfl, HB.out⟩)
      · by_cases e2 : (p : Int) < z
        · go_wp2_with fail
          all_goals try go_big_false
          all_goals (go_ret; exact ⟨rfl, HB.out⟩)
        · go_wp2_with fail
          all_goals try go_big_false
          go_round
          case rel => exact ⟨k + 1, by omega, by go_num⟩
          case measure => simp [intOf]; omega
    · go_wp2_with fail
      exact t13 w0 _ HB.out a0 a1 a2 a3 a4 l0 l1 l3 c0 c1 c2 c3 c4 p Z0 Z1 Z2 Z3 Z4 g0 g1 g3 HP.out R0.out HZ.out R1.out R2.out R3.out R4.out


set_option maxRecDepth 1000000 in
set_option maxHeartbeats 4000000 in
theorem t11 {u5 u6 u7 u8 u9 u10 u11 u12 u13 u14 u16 u17 u18 u19 u20 u21 u22 u23 u24 u25 u26 u27 u28 u29 u30 u31 u32 u33 u34 u35 u36 u37 u38 u39 u40 u41 u42 u43 u44 u45 u46 u47 u48 u49 u50 u51 u52 u53 u54 u55 u56 u57 u58 u59 u60 u61 u62 u63 u64 u65 u66 u67 u68 u69 u70 u71 u72 u73 u74 u75 u76 u77 u78 u79 u80 u81 u82 u83 u84 u85 u86 u87 u88 u89 u90 u91 u92 u93 u94 u95 u96 u97 u98 u99 u100 u101 u102 u103 u104 u105 u106 u107 u108 u109 u110 u111 u112 u113 u114 u115 u116 u117 u118 u119 u120 u121 u122 u123 u124 u125 u126 u127 u128 u129 u130 u131 u132 u133 u134 u135 u136 u137 u138 u139 u140 u141 u142 u143 u144 u145 u146 u147 u148 u149 u150 u151 u152 u153 u154 u155 u156 u157 u158 u159 u160 u161 u162 u163 u164 u165 u166 u167 u168 u169 u170 u171 u172 u173 u174 u175 u176 u177 u178 u179 u180 u181 u182 u183 u184 u185 u186 u187 u188 u189 u190 u191 u192 u193 u194 u195 u196 u197 u198 u199 u200 u201 u202 u203 u204 u205 u206 u207 u208 u209 u210 u211 u212 u213 u214 u215 u216 u217 u218 u219 u220 u221 u222 u223 u224 u225 u226 u227 u228 u229 u230 u231 u232 u233 u234 u235 u236 u237 u238 u239 u240 u241 u242 u243 u244 u245 u246 u247 u248 u249 u250 u251 u252 u253 u254 u255 u256 u257 u258 u259 u260 u261 u262 u263 u264 u265 u266 u267 u268 u269 u270 u271 u272 u273 u274 u275 u276 u277 u278 u279 u280 u281 u282 u283 u284 u285 u286 u287 u288 u289 u290 u291 u292 u293 u294 u295 u296 u297 u298 u299 u300 u301 u302 u303 u304 u305 u306 u307 u308 u309 u310 u311 u312 u313 u314 u315 u316 u317 u318 u319 u320 u321 u322 u323 u324 u325 u326 u327 u328 u329 u330 u331 u332 u333 u334 u335 u336 u337 u338 u339 u340 u341 u342 u343 u344 u345 u346 u347 u348 : Value} (w0 wa : World) (hb : Below w0.heap.size w0 wa) (a0 a1 a2 a3 a4 : Option Addr) (l0 l1 l3 c0 c1 c2 c3 c4 p : Nat) (Z0 Z1 Z2 Z3 Z4 : Nat → Int) (g0 : l0 ≤ 262144) (g1 : l1 ≤ 262144) (g3 : l3 ≤ 262144) (hp : (l0 : Int) - 1 = (p : Int)) (r0 : RowI .i32 wa a0 l0 Z0) (hz0 : Z0 p = (l1 : Int)) (r1 : RowI .i32 wa a1 l1 Z1) (r2 : RowI .u8 wa a2 l1 Z2) (r3 : RowI .i32 wa a3 l3 Z3) (r4 : RowI .u8 wa a4 l3 Z4) (hz1 : ∀ i, i < l1 → -2147483648 ≤ Z1 i ∧ Z1 i ≤ 2147483647) (hz3 : ∀ i, i < l3 → -2147483648 ≤ Z3 i ∧ Z3 i ≤ 2147483647) : Code.wp Try.prog (TAIL Try.f3 11) (bodyPost Try.prog Try.f3 (Good w0)) ⟨#[.slice a0 l0 c0, .slice a1 l1 c1, .slice a2 l1 c2, .slice a3 l3 c3, .slice a4 l3 c4, u5, u6, u7, u8, u9, u10, u11, u12, u13, u14, .int .i64 (p : Int), u16, u17, u18, u19, u20, u21, u22, u23, u24, u25, u26, u27, u28, u29, u30, u31, u32, u33, u34, u35, u36, u37, u38, u39, u40, u41, u42, u43, u44, u45, u46, u47, u48, u49, u50, u51, u52, u53, u54, u55, u56, u57, u58, u59, u60, u61, u62, u63, u64, u65, u66, u67, u68, u69, u70, u71, u72, u73, u74, u75, u76, u77, u78, u79, u80, u81, u82, u83, u84, u85, u86, u87, u88, u89, u90, u91, u92, u93, u94, u95, u96, u97, u98, u99, u100, u101, u102, u103, u104, u105, u106, u107, u108, u109, u110, u111, u112, u113, u114, u115, u116, u117, u118, u119, u120, u121, u122, u123, u124, u125, u126, u127, u128, u129, u130, u131, u132, u133, u134, u135, u136, u137, u138, u139, u140, u141, u142, u143, u144, u145, u146, u147, u148, u149, u150, u151, u152, u153, u154, u155, u156, u157, u158, u159, u160, u161, u162, u163, u164, u165, u166, u167, u168, u169, u170, u171, u172, u173, u174, u175, u176, u177, u178, u179, u180, u181, u182, u183, u184, u185, u186, u187, u188, u189, u190, u191, u192, u193, u194, u195, u196, u197, u198, u199, u200, u201, u202, u203, u204, u205, u206, u207, u208, u209, u210, u211, u212, u213, u214, u215, u216, u217, u218, u219, u220, u221, u222, u223, u224, u225, u226, u227, u228, u229, u230, u231, u232, u233, u234, u235, u236, u237, u238, u239, u240, u241, u242, u243, u244, u245, u246, u247, u248, u249, u250, u251, u252, u253, u254, u255, u256, u257, u258, u259, u260, u261, u262, u263, u264, u265, u266, u267, u268, u269, u270, u271, u272, u273, u274, u275, u276, u277, u278, u279, u280, u281, u282, u283, u284, u285, u286, u287, u288, u289, u290, u291, u292, u293, u294, u295, u296, u297, u298, u299, u300, u301, u302, u303, u304, u305, u306, u307, u308, u309, u310, u311, u312, u313, u314, u315, u316, u317, u318, u319, u320, u321, u322, u323, u324, u325, u326, u327, u328, u329, u330, u331, u332, u333, u334, u335, u336, u337, u338, u339, u340, u341, u342, u343, u344, u345, u346, u347, u348], []⟩ wa := by
  have HB := hid hb
  have R0 := hid r0
  have HZ := hid hz0
  have R1 := hid r1
  have R2 := hid r2
  have R3 := hid r3
  have R4 := hid r4
  have HP := hid hp
  clear hb r0 hz0 r1 r2 r3 r4 hp
  have Y1 := hid hz1
  have Y3 := hid hz3
  clear hz1 hz3
  rw [show TAIL Try.f3 11 = .seq (headS (TAIL Try.f3 11)) (TAIL Try.f3 12) from rfl]
  conv => arg 2; arg 1; whnf
  go_wp2_with fail
  go_loop [16] (fun e => ∃ k : Nat, k ≤ l1 ∧ e = .int .i64 k) (fun e => l1 - (intOf e).toNat)
  case atStart => exact ⟨0, Nat.zero_le _, rfl⟩
  case round =>
    obtain ⟨k, hk, rfl⟩ := hrel
    by_cases hlt : k < l1
    · obtain ⟨b3, o3, rfl, q3⟩ := R1.out k hlt
      obtain ⟨z1, z2⟩ := Y1.out k hlt
      generalize Z1 k = z at *
      by_cases e1 : z < 0
      · go_wp2_with fail
        all_goals try go_big_false
        all_goals (go_ret; exact ⟨rfl, HB.out⟩)
      · by_cases e2 : (p : Int) ≤ z
        · go_wp2_with fail
          all_goals try go_big_false
          all_goals (go_ret; exact ⟨rfl, HB.out⟩)
        · go_wp2_with fail
          all_goals try go_big_false
          go_round
          case rel => exact ⟨k + 1, by omega, by go_num⟩
          case measure => simp [intOf]; omega
    · go_wp2_with fail
      exact t12 w0 _ HB.out a0 a1 a2 a3 a4 l0 l1 l3 c0 c1 c2 c3 c4 p Z0 Z1 Z2 Z3 Z4 g0 g1 g3 HP.out R0.out HZ.out R1.out R2.out R3.out R4.out Y3.out


set_option maxRecDepth 1000000 in
set_option maxHeartbeats 4000000 in
theorem t10 {u5 u6 u7 u8 u9 u10 u11 u12 u13 u14 u15 u16 u17 u18 u19 u20 u21 u22 u23 u24 u25 u26 u27 u28 u29 u30 u31 u32 u33 u34 u35 u36 u37 u38 u39 u40 u41 u42 u43 u44 u45 u46 u47 u48 u49 u50 u51 u52 u53 u54 u55 u56 u57 u58 u59 u60 u61 u62 u63 u64 u65 u66 u67 u68 u69 u70 u71 u72 u73 u74 u75 u76 u77 u78 u79 u80 u81 u82 u83 u84 u85 u86 u87 u88 u89 u90 u91 u92 u93 u94 u95 u96 u97 u98 u99 u100 u101 u102 u103 u104 u105 u106 u107 u108 u109 u110 u111 u112 u113 u114 u115 u116 u117 u118 u119 u120 u121 u122 u123 u124 u125 u126 u127 u128 u129 u130 u131 u132 u133 u134 u135 u136 u137 u138 u139 u140 u141 u142 u143 u144 u145 u146 u147 u148 u149 u150 u151 u152 u153 u154 u155 u156 u157 u158 u159 u160 u161 u162 u163 u164 u165 u166 u167 u168 u169 u170 u171 u172 u173 u174 u175 u176 u177 u178 u179 u180 u181 u182 u183 u184 u185 u186 u187 u188 u189 u190 u191 u192 u193 u194 u195 u196 u197 u198 u199 u200 u201 u202 u203 u204 u205 u206 u207 u208 u209 u210 u211 u212 u213 u214 u215 u216 u217 u218 u219 u220 u221 u222 u223 u224 u225 u226 u227 u228 u229 u230 u231 u232 u233 u234 u235 u236 u237 u238 u239 u240 u241 u242 u243 u244 u245 u246 u247 u248 u249 u250 u251 u252 u253 u254 u255 u256 u257 u258 u259 u260 u261 u262 u263 u264 u265 u266 u267 u268 u269 u270 u271 u272 u273 u274 u275 u276 u277 u278 u279 u280 u281 u282 u283 u284 u285 u286 u287 u288 u289 u290 u291 u292 u293 u294 u295 u296 u297 u298 u299 u300 u301 u302 u303 u304 u305 u306 u307 u308 u309 u310 u311 u312 u313 u314 u315 u316 u317 u318 u319 u320 u321 u322 u323 u324 u325 u326 u327 u328 u329 u330 u331 u332 u333 u334 u335 u336 u337 u338 u339 u340 u341 u342 u343 u344 u345 u346 u347 u348 : Value} (w0 wa : World) (hb : Below w0.heap.size w0 wa) (a0 a1 a2 a3 a4 : Option Addr) (l0 l1 l3 c0 c1 c2 c3 c4 p : Nat) (Z0 Z1 Z2 Z3 Z4 : Nat → Int) (g0 : l0 ≤ 262144) (g1 : l1 ≤ 262144) (g3 : l3 ≤ 262144) (hp : (l0 : Int) - 1 = (p : Int)) (r0 : RowI .i32 wa a0 l0 Z0) (hz0 : Z0 p = (l1 : Int)) (r1 : RowI .i32 wa a1 l1 Z1) (r2 : RowI .u8 wa a2 l1 Z2) (r3 : RowI .i32 wa a3 l3 Z3) (r4 : RowI .u8 wa a4 l3 Z4) (hz1 : ∀ i, i < l1 → -2147483648 ≤ Z1 i ∧ Z1 i ≤ 2147483647) (hz3 : ∀ i, i < l3 → -2147483648 ≤ Z3 i ∧ Z3 i ≤ 2147483647) : Code.wp Try.prog (TAIL Try.f3 10) (bodyPost Try.prog Try.f3 (Good w0)) ⟨#[.slice a0 l0 c0, .slice a1 l1 c1, .slice a2 l1 c2, .slice a3 l3 c3, .slice a4 l3 c4, u5, u6, u7, u8, u9, u10, u11, u12, u13, u14, u15, u16, u17, u18, u19, u20, u21, u22, u23, u24, u25, u26, u27, u28, u29, u30, u31, u32, u33, u34, u35, u36, u37, u38, u39, u40, u41, u42, u43, u44, u45, u46, u47, u48, u49, u50, u51, u52, u53, u54, u55, u56, u57, u58, u59, u60, u61, u62, u63, u64, u65, u66, u67, u68, u69, u70, u71, u72, u73, u74, u75, u76, u77, u78, u79, u80, u81, u82, u83, u84, u85, u86, u87, u88, u89, u90, u91, u92, u93, u94, u95, u96, u97, u98, u99, u100, u101, u102, u103, u104, u105, u106, u107, u108, u109, u110, u111, u112, u113, u114, u115, u116, u117, u118, u119, u120, u121, u122, u123, u124, u125, u126, u127, u128, u129, u130, u131, u132, u133, u134, u135, u136, u137, u138, u139, u140, u141, u142, u143, u144, u145, u146, u147, u148, u149, u150, u151, u152, u153, u154, u155, u156, u157, u158, u159, u160, u161, u162, u163, u164, u165, u166, u167, u168, u169, u170, u171, u172, u173, u174, u175, u176, u177, u178, u179, u180, u181, u182, u183, u184, u185, u186, u187, u188, u189, u190, u191, u192, u193, u194, u195, u196, u197, u198, u199, u200, u201, u202, u203, u204, u205, u206, u207, u208, u209, u210, u211, u212, u213, u214, u215, u216, u217, u218, u219, u220, u221, u222, u223, u224, u225, u226, u227, u228, u229, u230, u231, u232, u233, u234, u235, u236, u237, u238, u239, u240, u241, u242, u243, u244, u245, u246, u247, u248, u249, u250, u251, u252, u253, u254, u255, u256, u257, u258, u259, u260, u261, u262, u263, u264, u265, u266, u267, u268, u269, u270, u271, u272, u273, u274, u275, u276, u277, u278, u279, u280, u281, u282, u283, u284, u285, u286, u287, u288, u289, u290, u291, u292, u293, u294, u295, u296, u297, u298, u299, u300, u301, u302, u303, u304, u305, u306, u307, u308, u309, u310, u311, u312, u313, u314, u315, u316, u317, u318, u319, u320, u321, u322, u323, u324, u325, u326, u327, u328, u329, u330, u331, u332, u333, u334, u335, u336, u337, u338, u339, u340, u341, u342, u343, u344, u345, u346, u347, u348], []⟩ wa := by
  have HB := hid hb
  have R0 := hid r0
  have HZ := hid hz0
  have R1 := hid r1
  have R2 := hid r2
  have R3 := hid r3
  have R4 := hid r4
  have HP := hid hp
  clear hb r0 hz0 r1 r2 r3 r4 hp
  have Y1 := hid hz1
  have Y3 := hid hz3
  have hp := HP.out
  clear hz1 hz3
  rw [show TAIL Try.f3 10 = .seq (headS (TAIL Try.f3 10)) (TAIL Try.f3 11) from rfl]
  conv => arg 2; arg 1; whnf
  go_wp2_with fail
  exact t11 w0 _ HB.out a0 a1 a2 a3 a4 l0 l1 l3 c0 c1 c2 c3 c4 p Z0 Z1 Z2 Z3 Z4 g0 g1 g3 HP.out R0.out HZ.out R1.out R2.out R3.out R4.out Y1.out Y3.out


set_option maxRecDepth 1000000 in
set_option maxHeartbeats 4000000 in
theorem t9 {u5 u6 u7 u8 u9 u10 u11 u12 u13 u14 u15 u16 u17 u18 u19 u20 u21 u22 u23 u24 u25 u26 u27 u28 u29 u30 u31 u32 u33 u34 u35 u36 u37 u38 u39 u40 u41 u42 u43 u44 u45 u46 u47 u48 u49 u50 u51 u52 u53 u54 u55 u56 u57 u58 u59 u60 u61 u62 u63 u64 u65 u66 u67 u68 u69 u70 u71 u72 u73 u74 u75 u76 u77 u78 u79 u80 u81 u82 u83 u84 u85 u86 u87 u88 u89 u90 u91 u92 u93 u94 u95 u96 u97 u98 u99 u100 u101 u102 u103 u104 u105 u106 u107 u108 u109 u110 u111 u112 u113 u114 u115 u116 u117 u118 u119 u120 u121 u122 u123 u124 u125 u126 u127 u128 u129 u130 u131 u132 u133 u134 u135 u136 u137 u138 u139 u140 u141 u142 u143 u144 u145 u146 u147 u148 u149 u150 u151 u152 u153 u154 u155 u156 u157 u158 u159 u160 u161 u162 u163 u164 u165 u166 u167 u168 u169 u170 u171 u172 u173 u174 u175 u176 u177 u178 u179 u180 u181 u182 u183 u184 u185 u186 u187 u188 u189 u190 u191 u192 u193 u194 u195 u196 u197 u198 u199 u200 u201 u202 u203 u204 u205 u206 u207 u208 u209 u210 u211 u212 u213 u214 u215 u216 u217 u218 u219 u220 u221 u222 u223 u224 u225 u226 u227 u228 u229 u230 u231 u232 u233 u234 u235 u236 u237 u238 u239 u240 u241 u242 u243 u244 u245 u246 u247 u248 u249 u250 u251 u252 u253 u254 u255 u256 u257 u258 u259 u260 u261 u262 u263 u264 u265 u266 u267 u268 u269 u270 u271 u272 u273 u274 u275 u276 u277 u278 u279 u280 u281 u282 u283 u284 u285 u286 u287 u288 u289 u290 u291 u292 u293 u294 u295 u296 u297 u298 u299 u300 u301 u302 u303 u304 u305 u306 u307 u308 u309 u310 u311 u312 u313 u314 u315 u316 u317 u318 u319 u320 u321 u322 u323 u324 u325 u326 u327 u328 u329 u330 u331 u332 u333 u334 u335 u336 u337 u338 u339 u340 u341 u342 u343 u344 u345 u346 u347 u348 : Value} (w0 wa : World) (hb : Below w0.heap.size w0 wa) (a0 a1 a2 a3 a4 : Option Addr) (l0 l1 l3 c0 c1 c2 c3 c4 p : Nat) (Z0 Z1 Z2 Z3 Z4 : Nat → Int) (g0 : l0 ≤ 262144) (g1 : l1 ≤ 262144) (g3 : l3 ≤ 262144) (hp : (l0 : Int) - 1 = (p : Int)) (r0 : RowI .i32 wa a0 l0 Z0) (hz0 : Z0 p = (l1 : Int)) (r1 : RowI .i32 wa a1 l1 Z1) (r2 : RowI .u8 wa a2 l1 Z2) (r3 : RowI .i32 wa a3 l3 Z3) (r4 : RowI .u8 wa a4 l3 Z4) (hz1 : ∀ i, i < l1 → -2147483648 ≤ Z1 i ∧ Z1 i ≤ 2147483647) (hz3 : ∀ i, i < l3 → -2147483648 ≤ Z3 i ∧ Z3 i ≤ 2147483647) : Code.wp Try.prog (TAIL Try.f3 9) (bodyPost Try.prog Try.f3 (Good w0)) ⟨#[.slice a0 l0 c0, .slice a1 l1 c1, .slice a2 l1 c2, .slice a3 l3 c3, .slice a4 l3 c4, u5, u6, u7, u8, u9, u10, u11, u12, u13, u14, u15, u16, u17, u18, u19, u20, u21, u22, u23, u24, u25, u26, u27, u28, u29, u30, u31, u32, u33, u34, u35, u36, u37, u38, u39, u40, u41, u42, u43, u44, u45, u46, u47, u48, u49, u50, u51, u52, u53, u54, u55, u56, u57, u58, u59, u60, u61, u62, u63, u64, u65, u66, u67, u68, u69, u70, u71, u72, u73, u74, u75, u76, u77, u78, u79, u80, u81, u82, u83, u84, u85, u86, u87, u88, u89, u90, u91, u92, u93, u94, u95, u96, u97, u98, u99, u100, u101, u102, u103, u104, u105, u106, u107, u108, u109, u110, u111, u112, u113, u114, u115, u116, u117, u118, u119, u120, u121, u122, u123, u124, u125, u126, u127, u128, u129, u130, u131, u132, u133, u134, u135, u136, u137, u138, u139, u140, u141, u142, u143, u144, u145, u146, u147, u148, u149, u150, u151, u152, u153, u154, u155, u156, u157, u158, u159, u160, u161, u162, u163, u164, u165, u166, u167, u168, u169, u170, u171, u172, u173, u174, u175, u176, u177, u178, u179, u180, u181, u182, u183, u184, u185, u186, u187, u188, u189, u190, u191, u192, u193, u194, u195, u196, u197, u198, u199, u200, u201, u202, u203, u204, u205, u206, u207, u208, u209, u210, u211, u212, u213, u214, u215, u216, u217, u218, u219, u220, u221, u222, u223, u224, u225, u226, u227, u228, u229, u230, u231, u232, u233, u234, u235, u236, u237, u238, u239, u240, u241, u242, u243, u244, u245, u246, u247, u248, u249, u250, u251, u252, u253, u254, u255, u256, u257, u258, u259, u260, u261, u262, u263, u264, u265, u266, u267, u268, u269, u270, u271, u272, u273, u274, u275, u276, u277, u278, u279, u280, u281, u282, u283, u284, u285, u286, u287, u288, u289, u290, u291, u292, u293, u294, u295, u296, u297, u298, u299, u300, u301, u302, u303, u304, u305, u306, u307, u308, u309, u310, u311, u312, u313, u314, u315, u316, u317, u318, u319, u320, u321, u322, u323, u324, u325, u326, u327, u328, u329, u330, u331, u332, u333, u334, u335, u336, u337, u338, u339, u340, u341, u342, u343, u344, u345, u346, u347, u348], []⟩ wa := by
  have HB := hid hb
  have R0 := hid r0
  have HZ := hid hz0
  have R1 := hid r1
  have R2 := hid r2
  have R3 := hid r3
  have R4 := hid r4
  have HP := hid hp
  clear hb r0 hz0 r1 r2 r3 r4 hp
  have Y1 := hid hz1
  have Y3 := hid hz3
  clear hz1 hz3
  rw [show TAIL Try.f3 9 = .seq (headS (TAIL Try.f3 9)) (TAIL Try.f3 10) from rfl]
  conv => arg 2; arg 1; whnf
  go_wp2_with fail
  go_loopw [14] (fun e w' => ∃ k : Nat, k ≤ l0 ∧ e = .int .i64 k ∧ Hid (∃ q, w' = wa.drewN q)) (fun e _ => l0 - (intOf e).toNat)
  case atStart => exact ⟨0, Nat.zero_le _, rfl, 0, rfl⟩
  case round =>
    obtain ⟨k, hk, rfl, hq⟩ := hrel
    by_cases hlt : k + 1 < l0
    · obtain ⟨b3, o3, rfl, q3⟩ := R0.out k (by omega)
      have q3' : wr.cell? ⟨b3, o3 + k, none⟩ = some (.int .i32 (Z0 k)) := by obtain ⟨q, rfl⟩ := hq.out; exact q3
      have q4' : wr.cell? ⟨b3, o3 + (k + 1), none⟩ = some (.int .i32 (Z0 (k + 1))) := by obtain ⟨q, rfl⟩ := hq.out; exact row_at R0.out rfl hlt
      clear q3
      generalize Z0 k = z at *
      generalize Z0 (k + 1) = z' at *
      go_wp2_with fail
      go_region
      go_wp2_with fail
      · go_ret
        obtain ⟨q, rfl⟩ := hq.out
        exact ⟨rfl, below_drewN HB.out (q + 1)⟩
      · go_roundw
        case rel => exact ⟨k + 1, by omega, by go_num, by obtain ⟨q, rfl⟩ := hq.out; exact ⟨q + 1, rfl⟩⟩
        case measure => simp [intOf]; omega
    · go_wp2_with fail
      obtain ⟨q, rfl⟩ := hq.out
      exact t10 w0 _ (below_drewN HB.out q) a0 a1 a2 a3 a4 l0 l1 l3 c0 c1 c2 c3 c4 p Z0 Z1 Z2 Z3 Z4 g0 g1 g3 HP.out R0.out HZ.out R1.out R2.out R3.out R4.out Y1.out Y3.out


set_option maxRecDepth 1000000 in
set_option maxHeartbeats 4000000 in
theorem t8 {u5 u6 u7 u8 u9 u10 u11 u12 u13 u14 u15 u16 u17 u18 u19 u20 u21 u22 u23 u24 u25 u26 u27 u28 u29 u30 u31 u32 u33 u34 u35 u36 u37 u38 u39 u40 u41 u42 u43 u44 u45 u46 u47 u48 u49 u50 u51 u52 u53 u54 u55 u56 u57 u58 u59 u60 u61 u62 u63 u64 u65 u66 u67 u68 u69 u70 u71 u72 u73 u74 u75 u76 u77 u78 u79 u80 u81 u82 u83 u84 u85 u86 u87 u88 u89 u90 u91 u92 u93 u94 u95 u96 u97 u98 u99 u100 u101 u102 u103 u104 u105 u106 u107 u108 u109 u110 u111 u112 u113 u114 u115 u116 u117 u118 u119 u120 u121 u122 u123 u124 u125 u126 u127 u128 u129 u130 u131 u132 u133 u134 u135 u136 u137 u138 u139 u140 u141 u142 u143 u144 u145 u146 u147 u148 u149 u150 u151 u152 u153 u154 u155 u156 u157 u158 u159 u160 u161 u162 u163 u164 u165 u166 u167 u168 u169 u170 u171 u172 u173 u174 u175 u176 u177 u178 u179 u180 u181 u182 u183 u184 u185 u186 u187 u188 u189 u190 u191 u192 u193 u194 u195 u196 u197 u198 u199 u200 u201 u202 u203 u204 u205 u206 u207 u208 u209 u210 u211 u212 u213 u214 u215 u216 u217 u218 u219 u220 u221 u222 u223 u224 u225 u226 u227 u228 u229 u230 u231 u232 u233 u234 u235 u236 u237 u238 u239 u240 u241 u242 u243 u244 u245 u246 u247 u248 u249 u250 u251 u252 u253 u254 u255 u256 u257 u258 u259 u260 u261 u262 u263 u264 u265 u266 u267 u268 u269 u270 u271 u272 u273 u274 u275 u276 u277 u278 u279 u280 u281 u282 u283 u284 u285 u286 u287 u288 u289 u290 u291 u292 u293 u294 u295 u296 u297 u298 u299 u300 u301 u302 u303 u304 u305 u306 u307 u308 u309 u310 u311 u312 u313 u314 u315 u316 u317 u318 u319 u320 u321 u322 u323 u324 u325 u326 u327 u328 u329 u330 u331 u332 u333 u334 u335 u336 u337 u338 u339 u340 u341 u342 u343 u344 u345 u346 u347 u348 : Value} (w0 wa : World) (hb : Below w0.heap.size w0 wa) (a0 a1 a2 a3 a4 : Option Addr) (l0 l1 l3 c0 c1 c2 c3 c4 p : Nat) (Z0 Z1 Z2 Z3 Z4 : Nat → Int) (g0 : l0 ≤ 262144) (g1 : l1 ≤ 262144) (g3 : l3 ≤ 262144) (hp : (l0 : Int) - 1 = (p : Int)) (r0 : RowI .i32 wa a0 l0 Z0) (hz0 : Z0 p = (l1 : Int)) (r1 : RowI .i32 wa a1 l1 Z1) (r2 : RowI .u8 wa a2 l1 Z2) (r3 : RowI .i32 wa a3 l3 Z3) (r4 : RowI .u8 wa a4 l3 Z4) (hz1 : ∀ i, i < l1 → -2147483648 ≤ Z1 i ∧ Z1 i ≤ 2147483647) (hz3 : ∀ i, i < l3 → -2147483648 ≤ Z3 i ∧ Z3 i ≤ 2147483647) : Code.wp Try.prog (TAIL Try.f3 8) (bodyPost Try.prog Try.f3 (Good w0)) ⟨#[.slice a0 l0 c0, .slice a1 l1 c1, .slice a2 l1 c2, .slice a3 l3 c3, .slice a4 l3 c4, u5, u6, u7, u8, u9, u10, u11, u12, u13, u14, u15, u16, u17, u18, u19, u20, u21, u22, u23, u24, u25, u26, u27, u28, u29, u30, u31, u32, u33, u34, u35, u36, u37, u38, u39, u40, u41, u42, u43, u44, u45, u46, u47, u48, u49, u50, u51, u52, u53, u54, u55, u56, u57, u58, u59, u60, u61, u62, u63, u64, u65, u66, u67, u68, u69, u70, u71, u72, u73, u74, u75, u76, u77, u78, u79, u80, u81, u82, u83, u84, u85, u86, u87, u88, u89, u90, u91, u92, u93, u94, u95, u96, u97, u98, u99, u100, u101, u102, u103, u104, u105, u106, u107, u108, u109, u110, u111, u112, u113, u114, u115, u116, u117, u118, u119, u120, u121, u122, u123, u124, u125, u126, u127, u128, u129, u130, u131, u132, u133, u134, u135, u136, u137, u138, u139, u140, u141, u142, u143, u144, u145, u146, u147, u148, u149, u150, u151, u152, u153, u154, u155, u156, u157, u158, u159, u160, u161, u162, u163, u164, u165, u166, u167, u168, u169, u170, u171, u172, u173, u174, u175, u176, u177, u178, u179, u180, u181, u182, u183, u184, u185, u186, u187, u188, u189, u190, u191, u192, u193, u194, u195, u196, u197, u198, u199, u200, u201, u202, u203, u204, u205, u206, u207, u208, u209, u210, u211, u212, u213, u214, u215, u216, u217, u218, u219, u220, u221, u222, u223, u224, u225, u226, u227, u228, u229, u230, u231, u232, u233, u234, u235, u236, u237, u238, u239, u240, u241, u242, u243, u244, u245, u246, u247, u248, u249, u250, u251, u252, u253, u254, u255, u256, u257, u258, u259, u260, u261, u262, u263, u264, u265, u266, u267, u268, u269, u270, u271, u272, u273, u274, u275, u276, u277, u278, u279, u280, u281, u282, u283, u284, u285, u286, u287, u288, u289, u290, u291, u292, u293, u294, u295, u296, u297, u298, u299, u300, u301, u302, u303, u304, u305, u306, u307, u308, u309, u310, u311, u312, u313, u314, u315, u316, u317, u318, u319, u320, u321, u322, u323, u324, u325, u326, u327, u328, u329, u330, u331, u332, u333, u334, u335, u336, u337, u338, u339, u340, u341, u342, u343, u344, u345, u346, u347, u348], []⟩ wa := by
  have HB := hid hb
  have R0 := hid r0
  have HZ := hid hz0
  have R1 := hid r1
  have R2 := hid r2
  have R3 := hid r3
  have R4 := hid r4
  have HP := hid hp
  clear hb r0 hz0 r1 r2 r3 r4 hp
  have Y1 := hid hz1
  have Y3 := hid hz3
  clear hz1 hz3
  have hmk := run_make_row' (P := Try.prog) 23 5 (.int .u8 0) 1 Try.underlying23 Try.info5 rfl .i64 .i64 l1 (by omega) (by omega)
  have hn := fun (wx : World) (a : Option Addr) (n c : Nat) => run_neq_slice_nil_any (P := Try.prog) wx 23 5 a n c 0 0 Try.underlying23
  rw [show TAIL Try.f3 8 = .seq (headS (TAIL Try.f3 8)) (TAIL Try.f3 9) from rfl]
  conv => arg 2; arg 1; whnf
  cases a2 with
  | none =>
    go_wp2_with fail
    exact t9 w0 _ HB.out a0 a1 none a3 a4 l0 l1 l3 c0 c1 c2 c3 c4 p Z0 Z1 Z2 Z3 Z4 g0 g1 g3 HP.out R0.out HZ.out R1.out R2.out R3.out R4.out Y1.out Y3.out
  | some x =>
    go_wp2_with (refine wpList_copy_splice rfl (.tmp 138) (.tmp 139) 23 23 rfl 5 Try.underlying23 size5 _ _ _ _ _ _ rfl rfl wa.heap.size 0 (List.replicate l1 (.int .u8 0)) 5 (made_heap _ _ _ _) (cellsOf .u8 l1 Z2) (by rw [length_cellsOf]; exact (Nat.min_self _).symm) (fun h => ⟨rfl, R2.out.src _ h⟩) (by simp [length_cellsOf]) (one_cellsOf _ _ _) wa.heap.size wa ((Below.refl _ _).alloc (Nat.le_refl _) _) (Nat.le_refl _) ?_)
    intro w1 HG hbl
    have HBL := hid hbl
    clear hbl
    go_wp2_with fail
    exact t9 w0 _ (HB.out.trans (HBL.out.mono HB.out.size)) a0 a1 (some ⟨wa.heap.size, 0, none⟩) a3 a4 l0 l1 l3 c0 c1 l1 c3 c4 p Z0 Z1 Z2 Z3 Z4 g0 g1 g3 HP.out (R0.out.later HBL.out) HZ.out (R1.out.later HBL.out) (RowI.copied HG.out) (R3.out.later HBL.out) (R4.out.later HBL.out) Y1.out Y3.out


set_option maxRecDepth 1000000 in
set_option maxHeartbeats 4000000 in
theorem t7 {u5 u6 u7 u8 u9 u10 u11 u12 u13 u14 u15 u16 u17 u18 u19 u20 u21 u22 u23 u24 u25 u26 u27 u28 u29 u30 u31 u32 u33 u34 u35 u36 u37 u38 u39 u40 u41 u42 u43 u44 u45 u46 u47 u48 u49 u50 u51 u52 u53 u54 u55 u56 u57 u58 u59 u60 u61 u62 u63 u64 u65 u66 u67 u68 u69 u70 u71 u72 u73 u74 u75 u76 u77 u78 u79 u80 u81 u82 u83 u84 u85 u86 u87 u88 u89 u90 u91 u92 u93 u94 u95 u96 u97 u98 u99 u100 u101 u102 u103 u104 u105 u106 u107 u108 u109 u110 u111 u112 u113 u114 u115 u116 u117 u118 u119 u120 u121 u122 u123 u124 u125 u126 u127 u128 u129 u130 u131 u132 u133 u134 u135 u136 u137 u138 u139 u140 u141 u142 u143 u144 u145 u146 u147 u148 u149 u150 u151 u152 u153 u154 u155 u156 u157 u158 u159 u160 u161 u162 u163 u164 u165 u166 u167 u168 u169 u170 u171 u172 u173 u174 u175 u176 u177 u178 u179 u180 u181 u182 u183 u184 u185 u186 u187 u188 u189 u190 u191 u192 u193 u194 u195 u196 u197 u198 u199 u200 u201 u202 u203 u204 u205 u206 u207 u208 u209 u210 u211 u212 u213 u214 u215 u216 u217 u218 u219 u220 u221 u222 u223 u224 u225 u226 u227 u228 u229 u230 u231 u232 u233 u234 u235 u236 u237 u238 u239 u240 u241 u242 u243 u244 u245 u246 u247 u248 u249 u250 u251 u252 u253 u254 u255 u256 u257 u258 u259 u260 u261 u262 u263 u264 u265 u266 u267 u268 u269 u270 u271 u272 u273 u274 u275 u276 u277 u278 u279 u280 u281 u282 u283 u284 u285 u286 u287 u288 u289 u290 u291 u292 u293 u294 u295 u296 u297 u298 u299 u300 u301 u302 u303 u304 u305 u306 u307 u308 u309 u310 u311 u312 u313 u314 u315 u316 u317 u318 u319 u320 u321 u322 u323 u324 u325 u326 u327 u328 u329 u330 u331 u332 u333 u334 u335 u336 u337 u338 u339 u340 u341 u342 u343 u344 u345 u346 u347 u348 : Value} (w0 wa : World) (hb : Below w0.heap.size w0 wa) (a0 a1 a2 a3 a4 : Option Addr) (l0 l1 l3 c0 c1 c2 c3 c4 p : Nat) (Z0 Z1 Z2 Z3 Z4 : Nat → Int) (g0 : l0 ≤ 262144) (g1 : l1 ≤ 262144) (g3 : l3 ≤ 262144) (hp : (l0 : Int) - 1 = (p : Int)) (r0 : RowI .i32 wa a0 l0 Z0) (hz0 : Z0 p = (l1 : Int)) (r1 : RowI .i32 wa a1 l1 Z1) (r2 : RowI .u8 wa a2 l1 Z2) (r3 : RowI .i32 wa a3 l3 Z3) (r4 : RowI .u8 wa a4 l3 Z4) (hz1 : ∀ i, i < l1 → -2147483648 ≤ Z1 i ∧ Z1 i ≤ 2147483647) (hz3 : ∀ i, i < l3 → -2147483648 ≤ Z3 i ∧ Z3 i ≤ 2147483647) : Code.wp Try.prog (TAIL Try.f3 7) (bodyPost Try.prog Try.f3 (Good w0)) ⟨#[.slice a0 l0 c0, .slice a1 l1 c1, .slice a2 l1 c2, .slice a3 l3 c3, .slice a4 l3 c4, u5, u6, u7, u8, u9, u10, u11, u12, u13, u14, u15, u16, u17, u18, u19, u20, u21, u22, u23, u24, u25, u26, u27, u28, u29, u30, u31, u32, u33, u34, u35, u36, u37, u38, u39, u40, u41, u42, u43, u44, u45, u46, u47, u48, u49, u50, u51, u52, u53, u54, u55, u56, u57, u58, u59, u60, u61, u62, u63, u64, u65, u66, u67, u68, u69, u70, u71, u72, u73, u74, u75, u76, u77, u78, u79, u80, u81, u82, u83, u84, u85, u86, u87, u88, u89, u90, u91, u92, u93, u94, u95, u96, u97, u98, u99, u100, u101, u102, u103, u104, u105, u106, u107, u108, u109, u110, u111, u112, u113, u114, u115, u116, u117, u118, u119, u120, u121, u122, u123, u124, u125, u126, u127, u128, u129, u130, u131, u132, u133, u134, u135, u136, u137, u138, u139, u140, u141, u142, u143, u144, u145, u146, u147, u148, u149, u150, u151, u152, u153, u154, u155, u156, u157, u158, u159, u160, u161, u162, u163, u164, u165, u166, u167, u168, u169, u170, u171, u172, u173, u174, u175, u176, u177, u178, u179, u180, u181, u182, u183, u184, u185, u186, u187, u188, u189, u190, u191, u192, u193, u194, u195, u196, u197, u198, u199, u200, u201, u202, u203, u204, u205, u206, u207, u208, u209, u210, u211, u212, u213, u214, u215, u216, u217, u218, u219, u220, u221, u222, u223, u224, u225, u226, u227, u228, u229, u230, u231, u232, u233, u234, u235, u236, u237, u238, u239, u240, u241, u242, u243, u244, u245, u246, u247, u248, u249, u250, u251, u252, u253, u254, u255, u256, u257, u258, u259, u260, u261, u262, u263, u264, u265, u266, u267, u268, u269, u270, u271, u272, u273, u274, u275, u276, u277, u278, u279, u280, u281, u282, u283, u284, u285, u286, u287, u288, u289, u290, u291, u292, u293, u294, u295, u296, u297, u298, u299, u300, u301, u302, u303, u304, u305, u306, u307, u308, u309, u310, u311, u312, u313, u314, u315, u316, u317, u318, u319, u320, u321, u322, u323, u324, u325, u326, u327, u328, u329, u330, u331, u332, u333, u334, u335, u336, u337, u338, u339, u340, u341, u342, u343, u344, u345, u346, u347, u348], []⟩ wa := by
  have HB := hid hb
  have R0 := hid r0
  have HZ := hid hz0
  have R1 := hid r1
  have R2 := hid r2
  have R3 := hid r3
  have R4 := hid r4
  have HP := hid hp
  clear hb r0 hz0 r1 r2 r3 r4 hp
  have Y1 := hid hz1
  have Y3 := hid hz3
  clear hz1 hz3
  have hmk := run_make_row' (P := Try.prog) 22 21 (.int .i32 0) 4 Try.underlying22 Try.info21 rfl .i64 .i64 l1 (by omega) (by omega)
  have hn := fun (wx : World) (a : Option Addr) (n c : Nat) => run_neq_slice_nil_any (P := Try.prog) wx 22 21 a n c 0 0 Try.underlying22
  rw [show TAIL Try.f3 7 = .seq (headS (TAIL Try.f3 7)) (TAIL Try.f3 8) from rfl]
  conv => arg 2; arg 1; whnf
  cases a1 with
  | none =>
    go_wp2_with fail
    exact t8 w0 _ HB.out a0 none a2 a3 a4 l0 l1 l3 c0 c1 c2 c3 c4 p Z0 Z1 Z2 Z3 Z4 g0 g1 g3 HP.out R0.out HZ.out R1.out R2.out R3.out R4.out Y1.out Y3.out
  | some x =>
    go_wp2_with (refine wpList_copy_splice rfl (.tmp 129) (.tmp 130) 22 22 rfl 21 Try.underlying22 size21 _ _ _ _ _ _ rfl rfl wa.heap.size 0 (List.replicate l1 (.int .i32 0)) 21 (made_heap _ _ _ _) (cellsOf .i32 l1 Z1) (by rw [length_cellsOf]; exact (Nat.min_self _).symm) (fun h => ⟨rfl, R1.out.src _ h⟩) (by simp [length_cellsOf]) (one_cellsOf _ _ _) wa.heap.size wa ((Below.refl _ _).alloc (Nat.le_refl _) _) (Nat.le_refl _) ?_)
    intro w1 HG hbl
    have HBL := hid hbl
    clear hbl
    go_wp2_with fail
    exact t8 w0 _ (HB.out.trans (HBL.out.mono HB.out.size)) a0 (some ⟨wa.heap.size, 0, none⟩) a2 a3 a4 l0 l1 l3 c0 l1 c2 c3 c4 p Z0 Z1 Z2 Z3 Z4 g0 g1 g3 HP.out (R0.out.later HBL.out) HZ.out (RowI.copied HG.out) (R2.out.later HBL.out) (R3.out.later HBL.out) (R4.out.later HBL.out) Y1.out Y3.out


set_option maxRecDepth 1000000 in
set_option maxHeartbeats 4000000 in
theorem t6 {u5 u6 u7 u8 u9 u10 u11 u12 u13 u14 u15 u16 u17 u18 u19 u20 u21 u22 u23 u24 u25 u26 u27 u28 u29 u30 u31 u32 u33 u34 u35 u36 u37 u38 u39 u40 u41 u42 u43 u44 u45 u46 u47 u48 u49 u50 u51 u52 u53 u54 u55 u56 u57 u58 u59 u60 u61 u62 u63 u64 u65 u66 u67 u68 u69 u70 u71 u72 u73 u74 u75 u76 u77 u78 u79 u80 u81 u82 u83 u84 u85 u86 u87 u88 u89 u90 u91 u92 u93 u94 u95 u96 u97 u98 u99 u100 u101 u102 u103 u104 u105 u106 u107 u108 u109 u110 u111 u112 u113 u114 u115 u116 u117 u118 u119 u120 u121 u122 u123 u124 u125 u126 u127 u128 u129 u130 u131 u132 u133 u134 u135 u136 u137 u138 u139 u140 u141 u142 u143 u144 u145 u146 u147 u148 u149 u150 u151 u152 u153 u154 u155 u156 u157 u158 u159 u160 u161 u162 u163 u164 u165 u166 u167 u168 u169 u170 u171 u172 u173 u174 u175 u176 u177 u178 u179 u180 u181 u182 u183 u184 u185 u186 u187 u188 u189 u190 u191 u192 u193 u194 u195 u196 u197 u198 u199 u200 u201 u202 u203 u204 u205 u206 u207 u208 u209 u210 u211 u212 u213 u214 u215 u216 u217 u218 u219 u220 u221 u222 u223 u224 u225 u226 u227 u228 u229 u230 u231 u232 u233 u234 u235 u236 u237 u238 u239 u240 u241 u242 u243 u244 u245 u246 u247 u248 u249 u250 u251 u252 u253 u254 u255 u256 u257 u258 u259 u260 u261 u262 u263 u264 u265 u266 u267 u268 u269 u270 u271 u272 u273 u274 u275 u276 u277 u278 u279 u280 u281 u282 u283 u284 u285 u286 u287 u288 u289 u290 u291 u292 u293 u294 u295 u296 u297 u298 u299 u300 u301 u302 u303 u304 u305 u306 u307 u308 u309 u310 u311 u312 u313 u314 u315 u316 u317 u318 u319 u320 u321 u322 u323 u324 u325 u326 u327 u328 u329 u330 u331 u332 u333 u334 u335 u336 u337 u338 u339 u340 u341 u342 u343 u344 u345 u346 u347 u348 : Value} (w0 wa : World) (hb : Below w0.heap.size w0 wa) (a0 a1 a2 a3 a4 : Option Addr) (l0 l1 l3 c0 c1 c2 c3 c4 p : Nat) (Z0 Z1 Z2 Z3 Z4 : Nat → Int) (g0 : l0 ≤ 262144) (g1 : l1 ≤ 262144) (g3 : l3 ≤ 262144) (hp : (l0 : Int) - 1 = (p : Int)) (r0 : RowI .i32 wa a0 l0 Z0) (hz0 : Z0 p = (l1 : Int)) (r1 : RowI .i32 wa a1 l1 Z1) (r2 : RowI .u8 wa a2 l1 Z2) (r3 : RowI .i32 wa a3 l3 Z3) (r4 : RowI .u8 wa a4 l3 Z4) (hz1 : ∀ i, i < l1 → -2147483648 ≤ Z1 i ∧ Z1 i ≤ 2147483647) (hz3 : ∀ i, i < l3 → -2147483648 ≤ Z3 i ∧ Z3 i ≤ 2147483647) : Code.wp Try.prog (TAIL Try.f3 6) (bodyPost Try.prog Try.f3 (Good w0)) ⟨#[.slice a0 l0 c0, .slice a1 l1 c1, .slice a2 l1 c2, .slice a3 l3 c3, .slice a4 l3 c4, u5, u6, u7, u8, u9, u10, u11, u12, u13, u14, u15, u16, u17, u18, u19, u20, u21, u22, u23, u24, u25, u26, u27, u28, u29, u30, u31, u32, u33, u34, u35, u36, u37, u38, u39, u40, u41, u42, u43, u44, u45, u46, u47, u48, u49, u50, u51, u52, u53, u54, u55, u56, u57, u58, u59, u60, u61, u62, u63, u64, u65, u66, u67, u68, u69, u70, u71, u72, u73, u74, u75, u76, u77, u78, u79, u80, u81, u82, u83, u84, u85, u86, u87, u88, u89, u90, u91, u92, u93, u94, u95, u96, u97, u98, u99, u100, u101, u102, u103, u104, u105, u106, u107, u108, u109, u110, u111, u112, u113, u114, u115, u116, u117, u118, u119, u120, u121, u122, u123, u124, u125, u126, u127, u128, u129, u130, u131, u132, u133, u134, u135, u136, u137, u138, u139, u140, u141, u142, u143, u144, u145, u146, u147, u148, u149, u150, u151, u152, u153, u154, u155, u156, u157, u158, u159, u160, u161, u162, u163, u164, u165, u166, u167, u168, u169, u170, u171, u172, u173, u174, u175, u176, u177, u178, u179, u180, u181, u182, u183, u184, u185, u186, u187, u188, u189, u190, u191, u192, u193, u194, u195, u196, u197, u198, u199, u200, u201, u202, u203, u204, u205, u206, u207, u208, u209, u210, u211, u212, u213, u214, u215, u216, u217, u218, u219, u220, u221, u222, u223, u224, u225, u226, u227, u228, u229, u230, u231, u232, u233, u234, u235, u236, u237, u238, u239, u240, u241, u242, u243, u244, u245, u246, u247, u248, u249, u250, u251, u252, u253, u254, u255, u256, u257, u258, u259, u260, u261, u262, u263, u264, u265, u266, u267, u268, u269, u270, u271, u272, u273, u274, u275, u276, u277, u278, u279, u280, u281, u282, u283, u284, u285, u286, u287, u288, u289, u290, u291, u292, u293, u294, u295, u296, u297, u298, u299, u300, u301, u302, u303, u304, u305, u306, u307, u308, u309, u310, u311, u312, u313, u314, u315, u316, u317, u318, u319, u320, u321, u322, u323, u324, u325, u326, u327, u328, u329, u330, u331, u332, u333, u334, u335, u336, u337, u338, u339, u340, u341, u342, u343, u344, u345, u346, u347, u348], []⟩ wa := by
  have HB := hid hb
  have R0 := hid r0
  have HZ := hid hz0
  have R1 := hid r1
  have R2 := hid r2
  have R3 := hid r3
  have R4 := hid r4
  have HP := hid hp
  clear hb r0 hz0 r1 r2 r3 r4 hp
  have Y1 := hid hz1
  have Y3 := hid hz3
  clear hz1 hz3
  have hmk := run_make_row' (P := Try.prog) 22 21 (.int .i32 0) 4 Try.underlying22 Try.info21 rfl .i64 .i64 l0 (by omega) (by omega)
  have hn := fun (wx : World) (a : Option Addr) (n c : Nat) => run_neq_slice_nil_any (P := Try.prog) wx 22 21 a n c 0 0 Try.underlying22
  rw [show TAIL Try.f3 6 = .seq (headS (TAIL Try.f3 6)) (TAIL Try.f3 7) from rfl]
  conv => arg 2; arg 1; whnf
  cases a0 with
  | none =>
    go_wp2_with fail
    exact t7 w0 _ HB.out none a1 a2 a3 a4 l0 l1 l3 c0 c1 c2 c3 c4 p Z0 Z1 Z2 Z3 Z4 g0 g1 g3 HP.out R0.out HZ.out R1.out R2.out R3.out R4.out Y1.out Y3.out
  | some x =>
    go_wp2_with (refine wpList_copy_splice rfl (.tmp 120) (.tmp 121) 22 22 rfl 21 Try.underlying22 size21 _ _ _ _ _ _ rfl rfl wa.heap.size 0 (List.replicate l0 (.int .i32 0)) 21 (made_heap _ _ _ _) (cellsOf .i32 l0 Z0) (by rw [length_cellsOf]; exact (Nat.min_self _).symm) (fun h => ⟨rfl, R0.out.src _ h⟩) (by simp [length_cellsOf]) (one_cellsOf _ _ _) wa.heap.size wa ((Below.refl _ _).alloc (Nat.le_refl _) _) (Nat.le_refl _) ?_)
    intro w1 HG hbl
    have HBL := hid hbl
    clear hbl
    go_wp2_with fail
    exact t7 w0 _ (HB.out.trans (HBL.out.mono HB.out.size)) (some ⟨wa.heap.size, 0, none⟩) a1 a2 a3 a4 l0 l1 l3 l0 c1 c2 c3 c4 p Z0 Z1 Z2 Z3 Z4 g0 g1 g3 HP.out (RowI.copied HG.out) HZ.out (R1.out.later HBL.out) (R2.out.later HBL.out) (R3.out.later HBL.out) (R4.out.later HBL.out) Y1.out Y3.out


set_option maxRecDepth 1000000 in
set_option maxHeartbeats 4000000 in
theorem t5 {u5 u6 u7 u8 u9 u10 u11 u12 u13 u14 u15 u16 u17 u18 u19 u20 u21 u22 u23 u24 u25 u26 u27 u28 u29 u30 u31 u32 u33 u34 u35 u36 u37 u38 u39 u40 u41 u42 u43 u44 u45 u46 u47 u48 u49 u50 u51 u52 u53 u54 u55 u56 u57 u58 u59 u60 u61 u62 u63 u64 u65 u66 u67 u68 u69 u70 u71 u72 u73 u74 u75 u76 u77 u78 u79 u80 u81 u82 u83 u84 u85 u86 u87 u88 u89 u90 u91 u92 u93 u94 u95 u96 u97 u98 u99 u100 u101 u102 u103 u104 u105 u106 u107 u108 u109 u110 u111 u112 u113 u114 u115 u116 u117 u118 u119 u120 u121 u122 u123 u124 u125 u126 u127 u128 u129 u130 u131 u132 u133 u134 u135 u136 u137 u138 u139 u140 u141 u142 u143 u144 u145 u146 u147 u148 u149 u150 u151 u152 u153 u154 u155 u156 u157 u158 u159 u160 u161 u162 u163 u164 u165 u166 u167 u168 u169 u170 u171 u172 u173 u174 u175 u176 u177 u178 u179 u180 u181 u182 u183 u184 u185 u186 u187 u188 u189 u190 u191 u192 u193 u194 u195 u196 u197 u198 u199 u200 u201 u202 u203 u204 u205 u206 u207 u208 u209 u210 u211 u212 u213 u214 u215 u216 u217 u218 u219 u220 u221 u222 u223 u224 u225 u226 u227 u228 u229 u230 u231 u232 u233 u234 u235 u236 u237 u238 u239 u240 u241 u242 u243 u244 u245 u246 u247 u248 u249 u250 u251 u252 u253 u254 u255 u256 u257 u258 u259 u260 u261 u262 u263 u264 u265 u266 u267 u268 u269 u270 u271 u272 u273 u274 u275 u276 u277 u278 u279 u280 u281 u282 u283 u284 u285 u286 u287 u288 u289 u290 u291 u292 u293 u294 u295 u296 u297 u298 u299 u300 u301 u302 u303 u304 u305 u306 u307 u308 u309 u310 u311 u312 u313 u314 u315 u316 u317 u318 u319 u320 u321 u322 u323 u324 u325 u326 u327 u328 u329 u330 u331 u332 u333 u334 u335 u336 u337 u338 u339 u340 u341 u342 u343 u344 u345 u346 u347 u348 : Value} (w0 wa : World) (hb : Below w0.heap.size w0 wa) (a0 a1 a2 a3 a4 : Option Addr) (l0 l1 l3 c0 c1 c2 c3 c4 p : Nat) (Z0 Z1 Z2 Z3 Z4 : Nat → Int) (g0 : l0 ≤ 262144) (g1 : l1 ≤ 262144) (g3 : l3 ≤ 262144) (hp : (l0 : Int) - 1 = (p : Int)) (r0 : RowI .i32 wa a0 l0 Z0) (hz0 : Z0 p = (l1 : Int)) (r1 : RowI .i32 wa a1 l1 Z1) (r2 : RowI .u8 wa a2 l1 Z2) (r3 : RowI .i32 wa a3 l3 Z3) (r4 : RowI .u8 wa a4 l3 Z4) (hz1 : ∀ i, i < l1 → -2147483648 ≤ Z1 i ∧ Z1 i ≤ 2147483647) (hz3 : ∀ i, i < l3 → -2147483648 ≤ Z3 i ∧ Z3 i ≤ 2147483647) (hz00 : Z0 0 = 0) : Code.wp Try.prog (TAIL Try.f3 5) (bodyPost Try.prog Try.f3 (Good w0)) ⟨#[.slice a0 l0 c0, .slice a1 l1 c1, .slice a2 l1 c2, .slice a3 l3 c3, .slice a4 l3 c4, u5, u6, u7, u8, u9, u10, u11, u12, u13, u14, u15, u16, u17, u18, u19, u20, u21, u22, u23, u24, u25, u26, u27, u28, u29, u30, u31, u32, u33, u34, u35, u36, u37, u38, u39, u40, u41, u42, u43, u44, u45, u46, u47, u48, u49, u50, u51, u52, u53, u54, u55, u56, u57, u58, u59, u60, u61, u62, u63, u64, u65, u66, u67, u68, u69, u70, u71, u72, u73, u74, u75, u76, u77, u78, u79, u80, u81, u82, u83, u84, u85, u86, u87, u88, u89, u90, u91, u92, u93, u94, u95, u96, u97, u98, u99, u100, u101, u102, u103, u104, u105, u106, u107, u108, u109, u110, u111, u112, u113, u114, u115, u116, u117, u118, u119, u120, u121, u122, u123, u124, u125, u126, u127, u128, u129, u130, u131, u132, u133, u134, u135, u136, u137, u138, u139, u140, u141, u142, u143, u144, u145, u146, u147, u148, u149, u150, u151, u152, u153, u154, u155, u156, u157, u158, u159, u160, u161, u162, u163, u164, u165, u166, u167, u168, u169, u170, u171, u172, u173, u174, u175, u176, u177, u178, u179, u180, u181, u182, u183, u184, u185, u186, u187, u188, u189, u190, u191, u192, u193, u194, u195, u196, u197, u198, u199, u200, u201, u202, u203, u204, u205, u206, u207, u208, u209, u210, u211, u212, u213, u214, u215, u216, u217, u218, u219, u220, u221, u222, u223, u224, u225, u226, u227, u228, u229, u230, u231, u232, u233, u234, u235, u236, u237, u238, u239, u240, u241, u242, u243, u244, u245, u246, u247, u248, u249, u250, u251, u252, u253, u254, u255, u256, u257, u258, u259, u260, u261, u262, u263, u264, u265, u266, u267, u268, u269, u270, u271, u272, u273, u274, u275, u276, u277, u278, u279, u280, u281, u282, u283, u284, u285, u286, u287, u288, u289, u290, u291, u292, u293, u294, u295, u296, u297, u298, u299, u300, u301, u302, u303, u304, u305, u306, u307, u308, u309, u310, u311, u312, u313, u314, u315, u316, u317, u318, u319, u320, u321, u322, u323, u324, u325, u326, u327, u328, u329, u330, u331, u332, u333, u334, u335, u336, u337, u338, u339, u340, u341, u342, u343, u344, u345, u346, u347, u348], []⟩ wa := by
  have HB := hid hb
  have R0 := hid r0
  have HZ := hid hz0
  have R1 := hid r1
  have R2 := hid r2
  have R3 := hid r3
  have R4 := hid r4
  have HP := hid hp
  clear hb r0 hz0 r1 r2 r3 r4 hp
  have Y1 := hid hz1
  have Y3 := hid hz3
  clear hz1 hz3
  have hp := HP.out
  obtain ⟨b, off, rfl, q0⟩ := R0.out 0 (by omega)
  have q1 := row_at R0.out rfl (i := p) (by omega)
  rw [Nat.add_zero, hz00] at q0
  rw [HZ.out] at q1
  clear hz00
  rw [show TAIL Try.f3 5 = .seq (headS (TAIL Try.f3 5)) (TAIL Try.f3 6) from rfl]
  conv => arg 2; arg 1; whnf
  go_wp2_with fail
  all_goals try (go_ret; exact ⟨rfl, HB.out⟩)
  exact t6 w0 _ HB.out (some ⟨b, off, none⟩) a1 a2 a3 a4 l0 l1 l3 c0 c1 c2 c3 c4 p Z0 Z1 Z2 Z3 Z4 g0 g1 g3 HP.out R0.out HZ.out R1.out R2.out R3.out R4.out Y1.out Y3.out


set_option maxRecDepth 1000000 in
set_option maxHeartbeats 4000000 in
theorem t4 {u5 u6 u7 u8 u9 u10 u11 u12 u13 u14 u15 u16 u17 u18 u19 u20 u21 u22 u23 u24 u25 u26 u27 u28 u29 u30 u31 u32 u33 u34 u35 u36 u37 u38 u39 u40 u41 u42 u43 u44 u45 u46 u47 u48 u49 u50 u51 u52 u53 u54 u55 u56 u57 u58 u59 u60 u61 u62 u63 u64 u65 u66 u67 u68 u69 u70 u71 u72 u73 u74 u75 u76 u77 u78 u79 u80 u81 u82 u83 u84 u85 u86 u87 u88 u89 u90 u91 u92 u93 u94 u95 u96 u97 u98 u99 u100 u101 u102 u103 u104 u105 u106 u107 u108 u109 u110 u111 u112 u113 u114 u115 u116 u117 u118 u119 u120 u121 u122 u123 u124 u125 u126 u127 u128 u129 u130 u131 u132 u133 u134 u135 u136 u137 u138 u139 u140 u141 u142 u143 u144 u145 u146 u147 u148 u149 u150 u151 u152 u153 u154 u155 u156 u157 u158 u159 u160 u161 u162 u163 u164 u165 u166 u167 u168 u169 u170 u171 u172 u173 u174 u175 u176 u177 u178 u179 u180 u181 u182 u183 u184 u185 u186 u187 u188 u189 u190 u191 u192 u193 u194 u195 u196 u197 u198 u199 u200 u201 u202 u203 u204 u205 u206 u207 u208 u209 u210 u211 u212 u213 u214 u215 u216 u217 u218 u219 u220 u221 u222 u223 u224 u225 u226 u227 u228 u229 u230 u231 u232 u233 u234 u235 u236 u237 u238 u239 u240 u241 u242 u243 u244 u245 u246 u247 u248 u249 u250 u251 u252 u253 u254 u255 u256 u257 u258 u259 u260 u261 u262 u263 u264 u265 u266 u267 u268 u269 u270 u271 u272 u273 u274 u275 u276 u277 u278 u279 u280 u281 u282 u283 u284 u285 u286 u287 u288 u289 u290 u291 u292 u293 u294 u295 u296 u297 u298 u299 u300 u301 u302 u303 u304 u305 u306 u307 u308 u309 u310 u311 u312 u313 u314 u315 u316 u317 u318 u319 u320 u321 u322 u323 u324 u325 u326 u327 u328 u329 u330 u331 u332 u333 u334 u335 u336 u337 u338 u339 u340 u341 u342 u343 u344 u345 u346 u347 u348 : Value} (w0 wa : World) (hb : Below w0.heap.size w0 wa) (a0 a1 a2 a3 a4 : Option Addr) (l0 l1 l3 c0 c1 c2 c3 c4 p : Nat) (Z0 Z1 Z2 Z3 Z4 : Nat → Int) (g0 : l0 ≤ 262144) (g1 : l1 ≤ 262144) (g3 : l3 ≤ 262144) (hp : (l0 : Int) - 1 = (p : Int)) (r0 : RowI .i32 wa a0 l0 Z0) (hz0 : Z0 p = (l1 : Int)) (r1 : RowI .i32 wa a1 l1 Z1) (r2 : RowI .u8 wa a2 l1 Z2) (r3 : RowI .i32 wa a3 l3 Z3) (r4 : RowI .u8 wa a4 l3 Z4) (hz1 : ∀ i, i < l1 → -2147483648 ≤ Z1 i ∧ Z1 i ≤ 2147483647) (hz3 : ∀ i, i < l3 → -2147483648 ≤ Z3 i ∧ Z3 i ≤ 2147483647) (hz00 : Z0 0 = 0) (k3 : 1 ≤ l3) : Code.wp Try.prog (TAIL Try.f3 4) (bodyPost Try.prog Try.f3 (Good w0)) ⟨#[.slice a0 l0 c0, .slice a1 l1 c1, .slice a2 l1 c2, .slice a3 l3 c3, .slice a4 l3 c4, u5, u6, u7, u8, u9, u10, u11, u12, u13, u14, u15, u16, u17, u18, u19, u20, u21, u22, u23, u24, u25, u26, u27, u28, u29, u30, u31, u32, u33, u34, u35, u36, u37, u38, u39, u40, u41, u42, u43, u44, u45, u46, u47, u48, u49, u50, u51, u52, u53, u54, u55, u56, u57, u58, u59, u60, u61, u62, u63, u64, u65, u66, u67, u68, u69, u70, u71, u72, u73, u74, u75, u76, u77, u78, u79, u80, u81, u82, u83, u84, u85, u86, u87, u88, u89, u90, u91, u92, u93, u94, u95, u96, u97, u98, u99, u100, u101, u102, u103, u104, u105, u106, u107, u108, u109, u110, u111, u112, u113, u114, u115, u116, u117, u118, u119, u120, u121, u122, u123, u124, u125, u126, u127, u128, u129, u130, u131, u132, u133, u134, u135, u136, u137, u138, u139, u140, u141, u142, u143, u144, u145, u146, u147, u148, u149, u150, u151, u152, u153, u154, u155, u156, u157, u158, u159, u160, u161, u162, u163, u164, u165, u166, u167, u168, u169, u170, u171, u172, u173, u174, u175, u176, u177, u178, u179, u180, u181, u182, u183, u184, u185, u186, u187, u188, u189, u190, u191, u192, u193, u194, u195, u196, u197, u198, u199, u200, u201, u202, u203, u204, u205, u206, u207, u208, u209, u210, u211, u212, u213, u214, u215, u216, u217, u218, u219, u220, u221, u222, u223, u224, u225, u226, u227, u228, u229, u230, u231, u232, u233, u234, u235, u236, u237, u238, u239, u240, u241, u242, u243, u244, u245, u246, u247, u248, u249, u250, u251, u252, u253, u254, u255, u256, u257, u258, u259, u260, u261, u262, u263, u264, u265, u266, u267, u268, u269, u270, u271, u272, u273, u274, u275, u276, u277, u278, u279, u280, u281, u282, u283, u284, u285, u286, u287, u288, u289, u290, u291, u292, u293, u294, u295, u296, u297, u298, u299, u300, u301, u302, u303, u304, u305, u306, u307, u308, u309, u310, u311, u312, u313, u314, u315, u316, u317, u318, u319, u320, u321, u322, u323, u324, u325, u326, u327, u328, u329, u330, u331, u332, u333, u334, u335, u336, u337, u338, u339, u340, u341, u342, u343, u344, u345, u346, u347, u348], []⟩ wa := by
  have HB := hid hb
  have R0 := hid r0
  have HZ := hid hz0
  have R1 := hid r1
  have R2 := hid r2
  have R3 := hid r3
  have R4 := hid r4
  have HP := hid hp
  clear hb r0 hz0 r1 r2 r3 r4 hp
  have Y1 := hid hz1
  have Y3 := hid hz3
  clear hz1 hz3
  have HZ00 := hid hz00
  clear hz00
  rw [show TAIL Try.f3 4 = .seq (headS (TAIL Try.f3 4)) (TAIL Try.f3 5) from rfl]
  conv => arg 2; arg 1; whnf
  go_wp2_with fail
  all_goals try (go_ret; exact ⟨rfl, HB.out⟩)
  exact t5 w0 _ HB.out a0 a1 a2 a3 a4 l0 l1 l3 c0 c1 c2 c3 c4 p Z0 Z1 Z2 Z3 Z4 g0 g1 g3 HP.out R0.out HZ.out R1.out R2.out R3.out R4.out Y1.out Y3.out HZ00.out


set_option maxRecDepth 1000000 in
set_option maxHeartbeats 4000000 in
theorem t3 {u5 u6 u7 u8 u9 u10 u11 u12 u13 u14 u15 u16 u17 u18 u19 u20 u21 u22 u23 u24 u25 u26 u27 u28 u29 u30 u31 u32 u33 u34 u35 u36 u37 u38 u39 u40 u41 u42 u43 u44 u45 u46 u47 u48 u49 u50 u51 u52 u53 u54 u55 u56 u57 u58 u59 u60 u61 u62 u63 u64 u65 u66 u67 u68 u69 u70 u71 u72 u73 u74 u75 u76 u77 u78 u79 u80 u81 u82 u83 u84 u85 u86 u87 u88 u89 u90 u91 u92 u93 u94 u95 u96 u97 u98 u99 u100 u101 u102 u103 u104 u105 u106 u107 u108 u109 u110 u111 u112 u113 u114 u115 u116 u117 u118 u119 u120 u121 u122 u123 u124 u125 u126 u127 u128 u129 u130 u131 u132 u133 u134 u135 u136 u137 u138 u139 u140 u141 u142 u143 u144 u145 u146 u147 u148 u149 u150 u151 u152 u153 u154 u155 u156 u157 u158 u159 u160 u161 u162 u163 u164 u165 u166 u167 u168 u169 u170 u171 u172 u173 u174 u175 u176 u177 u178 u179 u180 u181 u182 u183 u184 u185 u186 u187 u188 u189 u190 u191 u192 u193 u194 u195 u196 u197 u198 u199 u200 u201 u202 u203 u204 u205 u206 u207 u208 u209 u210 u211 u212 u213 u214 u215 u216 u217 u218 u219 u220 u221 u222 u223 u224 u225 u226 u227 u228 u229 u230 u231 u232 u233 u234 u235 u236 u237 u238 u239 u240 u241 u242 u243 u244 u245 u246 u247 u248 u249 u250 u251 u252 u253 u254 u255 u256 u257 u258 u259 u260 u261 u262 u263 u264 u265 u266 u267 u268 u269 u270 u271 u272 u273 u274 u275 u276 u277 u278 u279 u280 u281 u282 u283 u284 u285 u286 u287 u288 u289 u290 u291 u292 u293 u294 u295 u296 u297 u298 u299 u300 u301 u302 u303 u304 u305 u306 u307 u308 u309 u310 u311 u312 u313 u314 u315 u316 u317 u318 u319 u320 u321 u322 u323 u324 u325 u326 u327 u328 u329 u330 u331 u332 u333 u334 u335 u336 u337 u338 u339 u340 u341 u342 u343 u344 u345 u346 u347 u348 : Value} (w0 wa : World) (hb : Below w0.heap.size w0 wa) (a0 a1 a2 a3 a4 : Option Addr) (l0 l1 l3 c0 c1 c2 c3 c4 p : Nat) (Z0 Z1 Z2 Z3 Z4 : Nat → Int) (g0 : l0 ≤ 262144) (g1 : l1 ≤ 262144) (g3 : l3 ≤ 262144) (hp : (l0 : Int) - 1 = (p : Int)) (r0 : RowI .i32 wa a0 l0 Z0) (hz0 : Z0 p = (l1 : Int)) (r1 : RowI .i32 wa a1 l1 Z1) (r2 : RowI .u8 wa a2 l1 Z2) (r3 : RowI .i32 wa a3 l3 Z3) (r4 : RowI .u8 wa a4 l3 Z4) (hz1 : ∀ i, i < l1 → -2147483648 ≤ Z1 i ∧ Z1 i ≤ 2147483647) (hz3 : ∀ i, i < l3 → -2147483648 ≤ Z3 i ∧ Z3 i ≤ 2147483647) (k3 : 1 ≤ l3) (hz00 : Z0 0 = 0) (g4 : 4 * l0 + 4 * l1 + 4 * l3 + l1 + l3 ≤ 1048576) : Code.wp Try.prog (TAIL Try.f3 3) (bodyPost Try.prog Try.f3 (Good w0)) ⟨#[.slice a0 l0 c0, .slice a1 l1 c1, .slice a2 l1 c2, .slice a3 l3 c3, .slice a4 l3 c4, u5, u6, u7, u8, u9, u10, u11, u12, u13, u14, u15, u16, u17, u18, u19, u20, u21, u22, u23, u24, u25, u26, u27, u28, u29, u30, u31, u32, u33, u34, u35, u36, u37, u38, u39, u40, u41, u42, u43, u44, u45, u46, u47, u48, u49, u50, u51, u52, u53, u54, u55, u56, u57, u58, u59, u60, u61, u62, u63, u64, u65, u66, u67, u68, u69, u70, u71, u72, u73, u74, u75, u76, u77, u78, u79, u80, u81, u82, u83, u84, u85, u86, u87, u88, u89, u90, u91, u92, u93, u94, u95, u96, u97, u98, u99, u100, u101, u102, u103, u104, u105, u106, u107, u108, u109, u110, u111, u112, u113, u114, u115, u116, u117, u118, u119, u120, u121, u122, u123, u124, u125, u126, u127, u128, u129, u130, u131, u132, u133, u134, u135, u136, u137, u138, u139, u140, u141, u142, u143, u144, u145, u146, u147, u148, u149, u150, u151, u152, u153, u154, u155, u156, u157, u158, u159, u160, u161, u162, u163, u164, u165, u166, u167, u168, u169, u170, u171, u172, u173, u174, u175, u176, u177, u178, u179, u180, u181, u182, u183, u184, u185, u186, u187, u188, u189, u190, u191, u192, u193, u194, u195, u196, u197, u198, u199, u200, u201, u202, u203, u204, u205, u206, u207, u208, u209, u210, u211, u212, u213, u214, u215, u216, u217, u218, u219, u220, u221, u222, u223, u224, u225, u226, u227, u228, u229, u230, u231, u232, u233, u234, u235, u236, u237, u238, u239, u240, u241, u242, u243, u244, u245, u246, u247, u248, u249, u250, u251, u252, u253, u254, u255, u256, u257, u258, u259, u260, u261, u262, u263, u264, u265, u266, u267, u268, u269, u270, u271, u272, u273, u274, u275, u276, u277, u278, u279, u280, u281, u282, u283, u284, u285, u286, u287, u288, u289, u290, u291, u292, u293, u294, u295, u296, u297, u298, u299, u300, u301, u302, u303, u304, u305, u306, u307, u308, u309, u310, u311, u312, u313, u314, u315, u316, u317, u318, u319, u320, u321, u322, u323, u324, u325, u326, u327, u328, u329, u330, u331, u332, u333, u334, u335, u336, u337, u338, u339, u340, u341, u342, u343, u344, u345, u346, u347, u348], []⟩ wa := by
  have HB := hid hb
  have R0 := hid r0
  have HZ := hid hz0
  have R1 := hid r1
  have R2 := hid r2
  have R3 := hid r3
  have R4 := hid r4
  have HP := hid hp
  clear hb r0 hz0 r1 r2 r3 r4 hp
  have Y1 := hid hz1
  have Y3 := hid hz3
  clear hz1 hz3
  have HZ00 := hid hz00
  clear hz00
  rw [show TAIL Try.f3 3 = .seq (headS (TAIL Try.f3 3)) (TAIL Try.f3 4) from rfl]
  conv => arg 2; arg 1; whnf
  go_wp2_with fail
  all_goals try (go_ret; exact ⟨rfl, HB.out⟩)
  exact t4 w0 _ HB.out a0 a1 a2 a3 a4 l0 l1 l3 c0 c1 c2 c3 c4 p Z0 Z1 Z2 Z3 Z4 g0 g1 g3 HP.out R0.out HZ.out R1.out R2.out R3.out R4.out Y1.out Y3.out HZ00.out k3


set_option maxRecDepth 1000000 in
set_option maxHeartbeats 4000000 in
theorem t2 {u5 u6 u7 u8 u9 u10 u11 u12 u13 u14 u15 u16 u17 u18 u19 u20 u21 u22 u23 u24 u25 u26 u27 u28 u29 u30 u31 u32 u33 u34 u35 u36 u37 u38 u39 u40 u41 u42 u43 u44 u45 u46 u47 u48 u49 u50 u51 u52 u53 u54 u55 u56 u57 u58 u59 u60 u61 u62 u63 u64 u65 u66 u67 u68 u69 u70 u71 u72 u73 u74 u75 u76 u77 u78 u79 u80 u81 u82 u83 u84 u85 u86 u87 u88 u89 u90 u91 u92 u93 u94 u95 u96 u97 u98 u99 u100 u101 u102 u103 u104 u105 u106 u107 u108 u109 u110 u111 u112 u113 u114 u115 u116 u117 u118 u119 u120 u121 u122 u123 u124 u125 u126 u127 u128 u129 u130 u131 u132 u133 u134 u135 u136 u137 u138 u139 u140 u141 u142 u143 u144 u145 u146 u147 u148 u149 u150 u151 u152 u153 u154 u155 u156 u157 u158 u159 u160 u161 u162 u163 u164 u165 u166 u167 u168 u169 u170 u171 u172 u173 u174 u175 u176 u177 u178 u179 u180 u181 u182 u183 u184 u185 u186 u187 u188 u189 u190 u191 u192 u193 u194 u195 u196 u197 u198 u199 u200 u201 u202 u203 u204 u205 u206 u207 u208 u209 u210 u211 u212 u213 u214 u215 u216 u217 u218 u219 u220 u221 u222 u223 u224 u225 u226 u227 u228 u229 u230 u231 u232 u233 u234 u235 u236 u237 u238 u239 u240 u241 u242 u243 u244 u245 u246 u247 u248 u249 u250 u251 u252 u253 u254 u255 u256 u257 u258 u259 u260 u261 u262 u263 u264 u265 u266 u267 u268 u269 u270 u271 u272 u273 u274 u275 u276 u277 u278 u279 u280 u281 u282 u283 u284 u285 u286 u287 u288 u289 u290 u291 u292 u293 u294 u295 u296 u297 u298 u299 u300 u301 u302 u303 u304 u305 u306 u307 u308 u309 u310 u311 u312 u313 u314 u315 u316 u317 u318 u319 u320 u321 u322 u323 u324 u325 u326 u327 u328 u329 u330 u331 u332 u333 u334 u335 u336 u337 u338 u339 u340 u341 u342 u343 u344 u345 u346 u347 u348 : Value} (w0 wa : World) (hb : Below w0.heap.size w0 wa) (a0 a1 a2 a3 a4 : Option Addr) (l0 l1 l3 c0 c1 c2 c3 c4 p : Nat) (Z0 Z1 Z2 Z3 Z4 : Nat → Int) (g0 : l0 ≤ 262144) (g1 : l1 ≤ 262144) (g3 : l3 ≤ 262144) (hp : (l0 : Int) - 1 = (p : Int)) (r0 : RowI .i32 wa a0 l0 Z0) (hz0 : Z0 p = (l1 : Int)) (r1 : RowI .i32 wa a1 l1 Z1) (r2 : RowI .u8 wa a2 l1 Z2) (r3 : RowI .i32 wa a3 l3 Z3) (r4 : RowI .u8 wa a4 l3 Z4) (hz1 : ∀ i, i < l1 → -2147483648 ≤ Z1 i ∧ Z1 i ≤ 2147483647) (hz3 : ∀ i, i < l3 → -2147483648 ≤ Z3 i ∧ Z3 i ≤ 2147483647) (k3 : 1 ≤ l3) (hz00 : Z0 0 = 0) (g4 : 4 * l0 + 4 * l1 + 4 * l3 + l1 + l3 ≤ 1048576) : Code.wp Try.prog (TAIL Try.f3 2) (bodyPost Try.prog Try.f3 (Good w0)) ⟨#[.slice a0 l0 c0, .slice a1 l1 c1, .slice a2 l1 c2, .slice a3 l3 c3, .slice a4 l3 c4, u5, u6, u7, u8, u9, u10, u11, u12, u13, u14, u15, u16, u17, u18, u19, u20, u21, u22, u23, u24, u25, u26, u27, u28, u29, u30, u31, u32, u33, u34, u35, u36, u37, u38, u39, u40, u41, u42, u43, u44, u45, u46, u47, u48, u49, u50, u51, u52, u53, u54, u55, u56, u57, u58, u59, u60, u61, u62, u63, u64, u65, u66, u67, u68, u69, u70, u71, u72, u73, u74, u75, u76, u77, u78, u79, u80, u81, u82, u83, u84, u85, u86, u87, u88, u89, u90, u91, u92, u93, u94, u95, u96, u97, u98, u99, u100, u101, u102, u103, u104, u105, u106, u107, u108, u109, u110, u111, u112, u113, u114, u115, u116, u117, u118, u119, u120, u121, u122, u123, u124, u125, u126, u127, u128, u129, u130, u131, u132, u133, u134, u135, u136, u137, u138, u139, u140, u141, u142, u143, u144, u145, u146, u147, u148, u149, u150, u151, u152, u153, u154, u155, u156, u157, u158, u159, u160, u161, u162, u163, u164, u165, u166, u167, u168, u169, u170, u171, u172, u173, u174, u175, u176, u177, u178, u179, u180, u181, u182, u183, u184, u185, u186, u187, u188, u189, u190, u191, u192, u193, u194, u195, u196, u197, u198, u199, u200, u201, u202, u203, u204, u205, u206, u207, u208, u209, u210, u211, u212, u213, u214, u215, u216, u217, u218, u219, u220, u221, u222, u223, u224, u225, u226, u227, u228, u229, u230, u231, u232, u233, u234, u235, u236, u237, u238, u239, u240, u241, u242, u243, u244, u245, u246, u247, u248, u249, u250, u251, u252, u253, u254, u255, u256, u257, u258, u259, u260, u261, u262, u263, u264, u265, u266, u267, u268, u269, u270, u271, u272, u273, u274, u275, u276, u277, u278, u279, u280, u281, u282, u283, u284, u285, u286, u287, u288, u289, u290, u291, u292, u293, u294, u295, u296, u297, u298, u299, u300, u301, u302, u303, u304, u305, u306, u307, u308, u309, u310, u311, u312, u313, u314, u315, u316, u317, u318, u319, u320, u321, u322, u323, u324, u325, u326, u327, u328, u329, u330, u331, u332, u333, u334, u335, u336, u337, u338, u339, u340, u341, u342, u343, u344, u345, u346, u347, u348], []⟩ wa := by
  have HB := hid hb
  have R0 := hid r0
  have HZ := hid hz0
  have R1 := hid r1
  have R2 := hid r2
  have R3 := hid r3
  have R4 := hid r4
  have HP := hid hp
  clear hb r0 hz0 r1 r2 r3 r4 hp
  have Y1 := hid hz1
  have Y3 := hid hz3
  clear hz1 hz3
  have HZ00 := hid hz00
  clear hz00
  rw [show TAIL Try.f3 2 = .seq (headS (TAIL Try.f3 2)) (TAIL Try.f3 3) from rfl]
  conv => arg 2; arg 1; whnf
  go_wp2_with fail
  all_goals try (go_ret; exact ⟨rfl, HB.out⟩)
  exact t3 w0 _ HB.out a0 a1 a2 a3 a4 l0 l1 l3 c0 c1 c2 c3 c4 p Z0 Z1 Z2 Z3 Z4 g0 g1 g3 HP.out R0.out HZ.out R1.out R2.out R3.out R4.out Y1.out Y3.out k3 HZ00.out g4


set_option maxRecDepth 1000000 in
set_option maxHeartbeats 4000000 in
theorem t1 {u5 u6 u7 u8 u9 u10 u11 u12 u13 u14 u15 u16 u17 u18 u19 u20 u21 u22 u23 u24 u25 u26 u27 u28 u29 u30 u31 u32 u33 u34 u35 u36 u37 u38 u39 u40 u41 u42 u43 u44 u45 u46 u47 u48 u49 u50 u51 u52 u53 u54 u55 u56 u57 u58 u59 u60 u61 u62 u63 u64 u65 u66 u67 u68 u69 u70 u71 u72 u73 u74 u75 u76 u77 u78 u79 u80 u81 u82 u83 u84 u85 u86 u87 u88 u89 u90 u91 u92 u93 u94 u95 u96 u97 u98 u99 u100 u101 u102 u103 u104 u105 u106 u107 u108 u109 u110 u111 u112 u113 u114 u115 u116 u117 u118 u119 u120 u121 u122 u123 u124 u125 u126 u127 u128 u129 u130 u131 u132 u133 u134 u135 u136 u137 u138 u139 u140 u141 u142 u143 u144 u145 u146 u147 u148 u149 u150 u151 u152 u153 u154 u155 u156 u157 u158 u159 u160 u161 u162 u163 u164 u165 u166 u167 u168 u169 u170 u171 u172 u173 u174 u175 u176 u177 u178 u179 u180 u181 u182 u183 u184 u185 u186 u187 u188 u189 u190 u191 u192 u193 u194 u195 u196 u197 u198 u199 u200 u201 u202 u203 u204 u205 u206 u207 u208 u209 u210 u211 u212 u213 u214 u215 u216 u217 u218 u219 u220 u221 u222 u223 u224 u225 u226 u227 u228 u229 u230 u231 u232 u233 u234 u235 u236 u237 u238 u239 u240 u241 u242 u243 u244 u245 u246 u247 u248 u249 u250 u251 u252 u253 u254 u255 u256 u257 u258 u259 u260 u261 u262 u263 u264 u265 u266 u267 u268 u269 u270 u271 u272 u273 u274 u275 u276 u277 u278 u279 u280 u281 u282 u283 u284 u285 u286 u287 u288 u289 u290 u291 u292 u293 u294 u295 u296 u297 u298 u299 u300 u301 u302 u303 u304 u305 u306 u307 u308 u309 u310 u311 u312 u313 u314 u315 u316 u317 u318 u319 u320 u321 u322 u323 u324 u325 u326 u327 u328 u329 u330 u331 u332 u333 u334 u335 u336 u337 u338 u339 u340 u341 u342 u343 u344 u345 u346 u347 u348 : Value} (w0 wa : World) (hb : Below w0.heap.size w0 wa) (a0 a1 a2 a3 a4 : Option Addr) (l0 l1 l3 c0 c1 c2 c3 c4 p : Nat) (Z0 Z1 Z2 Z3 Z4 : Nat → Int) (g0 : l0 ≤ 262144) (g1 : l1 ≤ 262144) (g3 : l3 ≤ 262144) (hp : (l0 : Int) - 1 = (p : Int)) (r0 : RowI .i32 wa a0 l0 Z0) (hz0 : Z0 p = (l1 : Int)) (r1 : RowI .i32 wa a1 l1 Z1) (r2 : RowI .u8 wa a2 l1 Z2) (r3 : RowI .i32 wa a3 l3 Z3) (r4 : RowI .u8 wa a4 l3 Z4) (hz1 : ∀ i, i < l1 → -2147483648 ≤ Z1 i ∧ Z1 i ≤ 2147483647) (hz3 : ∀ i, i < l3 → -2147483648 ≤ Z3 i ∧ Z3 i ≤ 2147483647) (k3 : 1 ≤ l3) (hz00 : Z0 0 = 0) (g4 : 4 * l0 + 4 * l1 + 4 * l3 + l1 + l3 ≤ 1048576) : Code.wp Try.prog (TAIL Try.f3 1) (bodyPost Try.prog Try.f3 (Good w0)) ⟨#[.slice a0 l0 c0, .slice a1 l1 c1, .slice a2 l1 c2, .slice a3 l3 c3, .slice a4 l3 c4, u5, u6, u7, u8, u9, u10, u11, u12, u13, u14, u15, u16, u17, u18, u19, u20, u21, u22, u23, u24, u25, u26, u27, u28, u29, u30, u31, u32, u33, u34, u35, u36, u37, u38, u39, u40, u41, u42, u43, u44, u45, u46, u47, u48, u49, u50, u51, u52, u53, u54, u55, u56, u57, u58, u59, u60, u61, u62, u63, u64, u65, u66, u67, u68, u69, u70, u71, u72, u73, u74, u75, u76, u77, u78, u79, u80, u81, u82, u83, u84, u85, u86, u87, u88, u89, u90, u91, u92, u93, u94, u95, u96, u97, u98, u99, u100, u101, u102, u103, u104, u105, u106, u107, u108, u109, u110, u111, u112, u113, u114, u115, u116, u117, u118, u119, u120, u121, u122, u123, u124, u125, u126, u127, u128, u129, u130, u131, u132, u133, u134, u135, u136, u137, u138, u139, u140, u141, u142, u143, u144, u145, u146, u147, u148, u149, u150, u151, u152, u153, u154, u155, u156, u157, u158, u159, u160, u161, u162, u163, u164, u165, u166, u167, u168, u169, u170, u171, u172, u173, u174, u175, u176, u177, u178, u179, u180, u181, u182, u183, u184, u185, u186, u187, u188, u189, u190, u191, u192, u193, u194, u195, u196, u197, u198, u199, u200, u201, u202, u203, u204, u205, u206, u207, u208, u209, u210, u211, u212, u213, u214, u215, u216, u217, u218, u219, u220, u221, u222, u223, u224, u225, u226, u227, u228, u229, u230, u231, u232, u233, u234, u235, u236, u237, u238, u239, u240, u241, u242, u243, u244, u245, u246, u247, u248, u249, u250, u251, u252, u253, u254, u255, u256, u257, u258, u259, u260, u261, u262, u263, u264, u265, u266, u267, u268, u269, u270, u271, u272, u273, u274, u275, u276, u277, u278, u279, u280, u281, u282, u283, u284, u285, u286, u287, u288, u289, u290, u291, u292, u293, u294, u295, u296, u297, u298, u299, u300, u301, u302, u303, u304, u305, u306, u307, u308, u309, u310, u311, u312, u313, u314, u315, u316, u317, u318, u319, u320, u321, u322, u323, u324, u325, u326, u327, u328, u329, u330, u331, u332, u333, u334, u335, u336, u337, u338, u339, u340, u341, u342, u343, u344, u345, u346, u347, u348], []⟩ wa := by
  have HB := hid hb
  have R0 := hid r0
  have HZ := hid hz0
  have R1 := hid r1
  have R2 := hid r2
  have R3 := hid r3
  have R4 := hid r4
  have HP := hid hp
  clear hb r0 hz0 r1 r2 r3 r4 hp
  have Y1 := hid hz1
  have Y3 := hid hz3
  clear hz1 hz3
  have HZ00 := hid hz00
  clear hz00
  have hbb := hid (bytes_yes a0 a1 a2 a3 a4 l0 l1 l1 l3 l3 c0 c1 c2 c3 c4 wa (by omega))
  rw [show TAIL Try.f3 1 = .seq (headS (TAIL Try.f3 1)) (TAIL Try.f3 2) from rfl]
  conv => arg 2; arg 1; whnf
  go_wp2_with fail
  refine hbb.out.mono ?_
  rintro e w' ⟨rfl, rfl⟩
  go_wp2_with fail
  exact t2 w0 _ HB.out a0 a1 a2 a3 a4 l0 l1 l3 c0 c1 c2 c3 c4 p Z0 Z1 Z2 Z3 Z4 g0 g1 g3 HP.out R0.out HZ.out R1.out R2.out R3.out R4.out Y1.out Y3.out k3 HZ00.out g4


set_option maxRecDepth 1000000 in
set_option maxHeartbeats 4000000 in
theorem main_any (wa : World) (a0 a1 a2 a3 a4 : Option Addr) (l0 l1 l3 c0 c1 c2 c3 c4 p : Nat) (Z0 Z1 Z2 Z3 Z4 : Nat → Int) (g0 : l0 ≤ 262144) (g1 : l1 ≤ 262144) (g3 : l3 ≤ 262144) (hp : (l0 : Int) - 1 = (p : Int)) (r0 : RowI .i32 wa a0 l0 Z0) (hz0 : Z0 p = (l1 : Int)) (r1 : RowI .i32 wa a1 l1 Z1) (r2 : RowI .u8 wa a2 l1 Z2) (r3 : RowI .i32 wa a3 l3 Z3) (r4 : RowI .u8 wa a4 l3 Z4)
    (hz1 : ∀ i, i < l1 → -2147483648 ≤ Z1 i ∧ Z1 i ≤ 2147483647) (hz3 : ∀ i, i < l3 → -2147483648 ≤ Z3 i ∧ Z3 i ≤ 2147483647) (k3 : 1 ≤ l3) (hz00 : Z0 0 = 0) (g4 : 4 * l0 + 4 * l1 + 4 * l3 + l1 + l3 ≤ 1048576) :
    Calls Try.prog 3 #[.slice a0 l0 c0, .slice a1 l1 c1, .slice a2 l1 c2, .slice a3 l3 c3, .slice a4 l3 c4] wa fun e w' => e = .returned (.bool true) ∧ Below wa.heap.size wa w' := by
  have X := hid (And.intro r0 (And.intro r1 (And.intro r2 (And.intro r3 r4))))
  have X2 := hid (And.intro hz0 (And.intro hz1 (And.intro hz3 (And.intro hz00 hp))))
  clear r0 r1 r2 r3 r4 hz0 hz1 hz3 hz00 hp
  go_enter Try.func3, Try.ntmps3
  change Code.wp Try.prog (TAIL Try.f3 0) (bodyPost Try.prog Try.f3 (Good wa)) _ _
  rw [show TAIL Try.f3 0 = .seq (headS (TAIL Try.f3 0)) (TAIL Try.f3 1) from rfl]
  conv => arg 2; arg 1; whnf
  go_wp2_with fail
  obtain ⟨r0, r1, r2, r3, r4⟩ := X.out
  obtain ⟨hz0, hz1, hz3, hz00, hp⟩ := X2.out
  exact t1 wa _ (Below.refl _ _) a0 a1 a2 a3 a4 l0 l1 l3 c0 c1 c2 c3 c4 p Z0 Z1 Z2 Z3 Z4 g0 g1 g3 hp r0 hz0 r1 r2 r3 r4 hz1 hz3 k3 hz00 g4


end Go.Proofs.Qxb6614338a
