import Derived.Test.Qxb6614982aParts
import Derived.BigGuardPart
import Derived.Deep.RegionWith
namespace Go.Proofs.Qxb6614982a
open Go.RowKit

/-- A function's text from its n-th statement on. -/
def dropS : Nat → Code → Code
  | 0, c => c
  | n + 1, .seq _ b => dropS n b
  | _ + 1, c => c
def headS : Code → Code
  | .seq a _ => a
  | c => c
def TAIL (f : Func) (n : Nat) : Code := dropS n (f.body.getD .skip)

/-- What the law says at its end. -/
def Good (w0 : World) : Ending → World → Prop := fun e w' => e = .returned (.bool true) ∧ Below w0.heap.size w0 w'

theorem below_drewN {B : Nat} {w w' : World} (h : Below B w w') (q : Nat) : Below B w (w'.drewN q) := ⟨h.os, h.tape, h.output, h.size, h.block⟩

theorem wrap_succ (a : Int) (k : Nat) : wrap64 (wrap64 (a + (k : Int)) + 1) = wrap64 (a + ((k + 1 : Nat) : Int)) := by
  simp only [wrap64]
  omega

theorem wrap_step (a : Int) (k : Nat) : wrap64 (wrap64 (a + (k : Int)) + 1) = wrap64 (a + (k : Int) + 1) := by
  simp only [wrap64]
  omega

/-- The joins after the first. -/
def joinsOf (n : Nat) : Int := if n = 0 then 0 else (n : Int) - 1

/-- Agreement and the documented fraction are one float, and it is equal to itself. -/
theorem agree_all (l3 : Nat) (agreed : Int) (hl : l3 ≤ 65536) (h0 : 0 ≤ agreed) (h1 : agreed ≤ joinsOf l3) :
    ∃ r, FloatKind.f64.format.order r r = some .eq ∧ (∀ w, Calls Try.prog 9 #[.int .i64 agreed, .int .i64 (joinsOf l3)] w fun e w' => e = .returned (.float .f64 r) ∧ w' = w) ∧
      ∀ b f x live pp pmax w, IsTree w b f x l3 live pp pmax agreed → Calls Try.prog 10 #[.pointer (some ⟨b, 0, none⟩)] w fun e w' => e = .returned (.float .f64 r) ∧ ∃ q, w' = w.drewN q := by
  by_cases h2 : l3 < 2
  · refine ⟨4607182418800017408, by decide +kernel, ?_, fun b f x live pp pmax w ht => agree_one b f x l3 live pp pmax agreed w ht h2⟩
    have e : joinsOf l3 = 0 := by unfold joinsOf; split <;> omega
    rw [e]
    exact fun w => fraction_one agreed w
  · have e : joinsOf l3 = ((l3 - 1 : Nat) : Int) := by unfold joinsOf; rw [if_neg (by omega)]; omega
    rw [e] at h1
    obtain ⟨k, rfl⟩ := Int.eq_ofNat_of_zero_le h0
    obtain ⟨r, hr, hs⟩ := quo_small k (l3 - 1) (by omega) (by omega) (by omega)
    refine ⟨r, hs, ?_, fun b f x live pp pmax w ht => agree_quo b f x l3 (l3 - 1) live pp pmax k r w ht (by omega) (by omega) (by omega) hr⟩
    rw [e]
    exact fun w => fraction_quo k _ r w (beq_eq_false_iff_ne.2 (by omega)) hr

set_option maxRecDepth 1000000 in
set_option maxHeartbeats 4000000 in
theorem t18 {u1 u2 u3 u9 u10 u11 u12 u13 u14 u15 u16 u17 u18 u19 u20 u21 u22 u26 u27 u28 u29 u30 u31 u32 u33 u34 u35 u36 u37 u38 u39 u40 u41 u42 u43 u44 u45 u46 u47 u48 u49 u50 u51 u52 u53 u54 u55 u56 u57 u58 u59 u60 u61 u62 u63 u64 u65 u66 u67 u68 u69 u70 u71 u72 u73 u74 u75 u76 u77 u78 u79 u80 u81 u82 u83 u84 u85 u86 u87 u88 u89 u90 u91 u92 u93 u94 u95 u96 u97 u98 u99 u100 u101 u102 u103 u104 u105 u106 u107 u108 u109 u110 u111 u112 u113 u114 u115 u116 u117 u118 u119 u120 u121 u122 u123 u124 u125 u126 u127 u128 u129 u130 u131 u132 u133 u134 u135 u136 u137 u138 u139 u140 u141 u142 u143 u144 u145 u146 u147 u148 u149 u150 u151 u152 u153 u154 u155 u156 u157 u158 u159 u160 u161 u162 u163 u164 u165 u166 u167 u168 u169 u170 u171 u172 u173 u174 u175 u176 u177 u178 u179 u180 u181 u182 u183 u184 u185 u186 u187 u188 u189 u190 u191 u192 u193 u194 u195 u196 u197 u198 u199 u200 : Value} (w0 wa : World) (hb : Below w0.heap.size w0 wa) (b f x l3 r : Nat) (live probes pmax agreed : Int) (a8 : Option Addr) (l8 c8 : Nat) (ht : IsTree wa b f x l3 live (wrap64 (probes + (l8 : Int))) pmax agreed) (hag : ∀ w, IsTree w b f x l3 live (wrap64 (probes + (l8 : Int))) pmax agreed → Calls Try.prog 10 #[.pointer (some ⟨b, 0, none⟩)] w fun e w' => e = .returned (.float .f64 r) ∧ ∃ q, w' = w.drewN q) (hrr : FloatKind.f64.format.order r r = some .eq) (_hl8 : l8 ≤ 65536) : Code.wp Try.prog (TAIL Try.f3 18) (bodyPost Try.prog Try.f3 (Good w0)) ⟨#[.float .f64 x, u1, u2, u3, .int .i64 live, .int .i64 agreed, .int .i64 probes, .int .i64 pmax, .slice a8 l8 c8, u9, u10, u11, u12, u13, u14, u15, u16, u17, u18, u19, u20, u21, u22, .pointer (some ⟨b, 0, none⟩), .float .f64 r, .float .f64 r, u26, u27, u28, u29, u30, u31, u32, u33, u34, u35, u36, u37, u38, u39, u40, u41, u42, u43, u44, u45, u46, u47, u48, u49, u50, u51, u52, u53, u54, u55, u56, u57, u58, u59, u60, u61, u62, u63, u64, u65, u66, u67, u68, u69, u70, u71, u72, u73, u74, u75, u76, u77, u78, u79, u80, u81, u82, u83, u84, u85, u86, u87, u88, u89, u90, u91, u92, u93, u94, u95, u96, u97, u98, u99, u100, u101, u102, u103, u104, u105, u106, u107, u108, u109, u110, u111, u112, u113, u114, u115, u116, u117, u118, u119, u120, u121, u122, u123, u124, u125, u126, u127, u128, u129, u130, u131, u132, u133, u134, u135, u136, u137, u138, u139, u140, u141, u142, u143, u144, u145, u146, u147, u148, u149, u150, u151, u152, u153, u154, u155, u156, u157, u158, u159, u160, u161, u162, u163, u164, u165, u166, u167, u168, u169, u170, u171, u172, u173, u174, u175, u176, u177, u178, u179, u180, u181, u182, u183, u184, u185, u186, u187, u188, u189, u190, u191, u192, u193, u194, u195, u196, u197, u198, u199, u200], []⟩ wa := by
  have HB := hid hb
  have HT := hid ht
  have HA := hid hag
  have e1 : (FloatKind.f64.format.order r r == some .eq) = true := by rw [hrr]; rfl
  clear hb ht hag hrr
  conv => arg 2; whnf
  go_wp2_with fail
  refine (probes_any _ _ _ _ _ _ _ _ _ HT.out).mono ?_
  rintro e w1 ⟨rfl, rfl⟩
  go_wp2_with fail
  refine (pmax_any _ _ _ _ _ _ _ _ _ HT.out).mono ?_
  rintro e w2 ⟨rfl, rfl⟩
  go_wp2_with fail
  refine (live_any _ _ _ _ _ _ _ _ _ HT.out).mono ?_
  rintro e w3 ⟨rfl, rfl⟩
  go_wp2_with fail
  refine (HA.out _ HT.out).mono ?_
  rintro e w4 ⟨rfl, q, rfl⟩
  go_wp2_with fail
  go_ret
  exact ⟨rfl, below_drewN HB.out q⟩


set_option maxRecDepth 1000000 in
set_option maxHeartbeats 4000000 in
theorem t17 {u1 u2 u3 u10 u11 u12 u13 u14 u15 u16 u17 u18 u19 u20 u21 u22 u26 u27 u28 u29 u30 u31 u32 u33 u34 u35 u36 u37 u38 u39 u40 u41 u42 u43 u44 u45 u46 u47 u48 u49 u50 u51 u52 u53 u54 u55 u56 u57 u58 u59 u60 u61 u62 u63 u64 u65 u66 u67 u68 u69 u70 u71 u72 u73 u74 u75 u76 u77 u78 u79 u80 u81 u82 u83 u84 u85 u86 u87 u88 u89 u90 u91 u92 u93 u94 u95 u96 u97 u98 u99 u100 u101 u102 u103 u104 u105 u106 u107 u108 u109 u110 u111 u112 u113 u114 u115 u116 u117 u118 u119 u120 u121 u122 u123 u124 u125 u126 u127 u128 u129 u130 u131 u132 u133 u134 u135 u136 u137 u138 u139 u140 u141 u142 u143 u144 u145 u146 u147 u148 u149 u150 u151 u152 u153 u154 u155 u156 u157 u158 u159 u160 u161 u162 u163 u164 u165 u166 u167 u168 u169 u170 u171 u172 u173 u174 u175 u176 u177 u178 u179 u180 u181 u182 u183 u184 u185 u186 u187 u188 u189 u190 u191 u192 u193 u194 u195 u196 u197 u198 u199 u200 : Value} (w0 w1 wa : World) (hb : Below w0.heap.size w0 w1) (hb1 : Below w1.heap.size w1 wa) (b f x l3 r : Nat) (live probes pmax agreed : Int) (a8 : Option Addr) (l8 c8 : Nat) (a9 : Option Addr) (c9 : Nat) (Z8 Z9 : Nat → Int) (hbb : w1.heap.size ≤ b) (hpw : wrap64 probes = probes) (ht : IsTree wa b f x l3 live probes pmax agreed) (hag : ∀ pp w, IsTree w b f x l3 live pp pmax agreed → Calls Try.prog 10 #[.pointer (some ⟨b, 0, none⟩)] w fun e w' => e = .returned (.float .f64 r) ∧ ∃ q, w' = w.drewN q) (hrr : FloatKind.f64.format.order r r = some .eq) (hl8 : l8 ≤ 65536) (r8 : RowI w1 a8 l8 Z8) (r9 : RowI w1 a9 l8 Z9) : Code.wp Try.prog (TAIL Try.f3 17) (bodyPost Try.prog Try.f3 (Good w0)) ⟨#[.float .f64 x, u1, u2, u3, .int .i64 live, .int .i64 agreed, .int .i64 probes, .int .i64 pmax, .slice a8 l8 c8, .slice a9 l8 c9, u10, u11, u12, u13, u14, u15, u16, u17, u18, u19, u20, u21, u22, .pointer (some ⟨b, 0, none⟩), .float .f64 r, .float .f64 r, u26, u27, u28, u29, u30, u31, u32, u33, u34, u35, u36, u37, u38, u39, u40, u41, u42, u43, u44, u45, u46, u47, u48, u49, u50, u51, u52, u53, u54, u55, u56, u57, u58, u59, u60, u61, u62, u63, u64, u65, u66, u67, u68, u69, u70, u71, u72, u73, u74, u75, u76, u77, u78, u79, u80, u81, u82, u83, u84, u85, u86, u87, u88, u89, u90, u91, u92, u93, u94, u95, u96, u97, u98, u99, u100, u101, u102, u103, u104, u105, u106, u107, u108, u109, u110, u111, u112, u113, u114, u115, u116, u117, u118, u119, u120, u121, u122, u123, u124, u125, u126, u127, u128, u129, u130, u131, u132, u133, u134, u135, u136, u137, u138, u139, u140, u141, u142, u143, u144, u145, u146, u147, u148, u149, u150, u151, u152, u153, u154, u155, u156, u157, u158, u159, u160, u161, u162, u163, u164, u165, u166, u167, u168, u169, u170, u171, u172, u173, u174, u175, u176, u177, u178, u179, u180, u181, u182, u183, u184, u185, u186, u187, u188, u189, u190, u191, u192, u193, u194, u195, u196, u197, u198, u199, u200], []⟩ wa := by
  have HB := hid hb
  have HB1 := hid hb1
  have HT := hid ht
  have HA := hid hag
  have HRR := hid hrr
  have R8 := hid r8
  have R9 := hid r9
  have HW := hid hpw
  clear hb hb1 ht hag hrr r8 r9 hpw
  rw [show TAIL Try.f3 17 = .seq (headS (TAIL Try.f3 17)) (TAIL Try.f3 18) from rfl]
  conv => arg 2; arg 1; whnf
  go_wp2_with fail
  go_loopw [26] (fun e w' => ∃ k : Nat, k ≤ l8 ∧ e = .int .i64 k ∧ Hid (Below w1.heap.size w1 w' ∧ IsTree w' b f x l3 live (wrap64 (probes + (k : Int))) pmax agreed)) (fun e _ => l8 - (intOf e).toNat)
  case atStart => exact ⟨0, Nat.zero_le _, rfl, HB1.out, by rw [show probes + ((0 : Nat) : Int) = probes by omega, HW.out]; exact HT.out⟩
  case round =>
    obtain ⟨k, hk, rfl, hq⟩ := hrel
    by_cases hlt : k < l8
    · obtain ⟨b3, o3, rfl, q3⟩ := R8.out.later hq.out.1 k hlt
      obtain ⟨b4, o4, rfl, q4⟩ := R9.out.later hq.out.1 k hlt
      have hcall := hid (fun wx (h : IsTree wx b f x l3 live (wrap64 (probes + (k : Int))) pmax agreed) => measure_any b f x l3 live (wrap64 (probes + (k : Int))) pmax agreed (Z8 k) (Z9 k) wx h)
      have HT2 := hid hq.out.2
      generalize Z8 k = z8 at *
      generalize Z9 k = z9 at *
      go_wp2_with fail
      go_region_with (go_at_call 11; refine (hcall.out _ (by exact HT2.out.drewN 1)).mono ?_; rintro e w5 ⟨rfl, ht5, hw5⟩; have HX := hid (And.intro ht5 hw5); clear ht5 hw5)
      all_goals
        have HB5 : Hid (Below w1.heap.size w1 w5) := by obtain ⟨_, hw5⟩ := HX.out; rw [hw5]; exact hq.out.1.drew.setCell hbb _
        have HT5 := hid HX.out.1
        clear HX
        go_wp2_with fail
        refine (same_any x _).mono ?_
        rintro e w6 ⟨rfl, rfl⟩
        go_wp2_with fail
        refine (probes_any _ _ _ _ _ _ _ _ _ HT5.out).mono ?_
        rintro e w7 ⟨rfl, rfl⟩
        go_wp2_with fail
        go_roundw
        case rel => exact ⟨k + 1, by omega, by go_num, HB5.out, by rw [← wrap_succ]; exact HT5.out⟩
        case measure => simp [intOf]; omega
    · go_wp2_with fail
      have e : k = l8 := by omega
      subst e
      exact t18 w0 _ (HB.out.trans (hq.out.1.mono HB.out.size)) b f x l3 r live probes pmax agreed a8 k c8 hq.out.2 (fun w h => HA.out _ w h) HRR.out hl8


set_option maxRecDepth 1000000 in
set_option maxHeartbeats 4000000 in
theorem t16 {u1 u2 u3 u10 u11 u12 u13 u14 u15 u16 u17 u18 u19 u20 u21 u22 u25 u26 u27 u28 u29 u30 u31 u32 u33 u34 u35 u36 u37 u38 u39 u40 u41 u42 u43 u44 u45 u46 u47 u48 u49 u50 u51 u52 u53 u54 u55 u56 u57 u58 u59 u60 u61 u62 u63 u64 u65 u66 u67 u68 u69 u70 u71 u72 u73 u74 u75 u76 u77 u78 u79 u80 u81 u82 u83 u84 u85 u86 u87 u88 u89 u90 u91 u92 u93 u94 u95 u96 u97 u98 u99 u100 u101 u102 u103 u104 u105 u106 u107 u108 u109 u110 u111 u112 u113 u114 u115 u116 u117 u118 u119 u120 u121 u122 u123 u124 u125 u126 u127 u128 u129 u130 u131 u132 u133 u134 u135 u136 u137 u138 u139 u140 u141 u142 u143 u144 u145 u146 u147 u148 u149 u150 u151 u152 u153 u154 u155 u156 u157 u158 u159 u160 u161 u162 u163 u164 u165 u166 u167 u168 u169 u170 u171 u172 u173 u174 u175 u176 u177 u178 u179 u180 u181 u182 u183 u184 u185 u186 u187 u188 u189 u190 u191 u192 u193 u194 u195 u196 u197 u198 u199 u200 : Value} (w0 w1 wa : World) (hb : Below w0.heap.size w0 w1) (hb1 : Below w1.heap.size w1 wa) (b f x l3 r : Nat) (live probes pmax agreed : Int) (a8 : Option Addr) (l8 c8 : Nat) (a9 : Option Addr) (c9 : Nat) (Z8 Z9 : Nat → Int) (hpw : wrap64 probes = probes) (hl8 : l8 ≤ 65536) (hbb : w1.heap.size ≤ b) (ht : IsTree wa b f x l3 live probes pmax agreed) (hag : ∀ b f x live pp pmax w, IsTree w b f x l3 live pp pmax agreed → Calls Try.prog 10 #[.pointer (some ⟨b, 0, none⟩)] w fun e w' => e = .returned (.float .f64 r) ∧ ∃ q, w' = w.drewN q) (hrr : FloatKind.f64.format.order r r = some .eq) (r8 : RowI w1 a8 l8 Z8) (r9 : RowI w1 a9 l8 Z9) : Code.wp Try.prog (TAIL Try.f3 16) (bodyPost Try.prog Try.f3 (Good w0)) ⟨#[.float .f64 x, u1, u2, u3, .int .i64 live, .int .i64 agreed, .int .i64 probes, .int .i64 pmax, .slice a8 l8 c8, .slice a9 l8 c9, u10, u11, u12, u13, u14, u15, u16, u17, u18, u19, u20, u21, u22, .pointer (some ⟨b, 0, none⟩), .float .f64 r, u25, u26, u27, u28, u29, u30, u31, u32, u33, u34, u35, u36, u37, u38, u39, u40, u41, u42, u43, u44, u45, u46, u47, u48, u49, u50, u51, u52, u53, u54, u55, u56, u57, u58, u59, u60, u61, u62, u63, u64, u65, u66, u67, u68, u69, u70, u71, u72, u73, u74, u75, u76, u77, u78, u79, u80, u81, u82, u83, u84, u85, u86, u87, u88, u89, u90, u91, u92, u93, u94, u95, u96, u97, u98, u99, u100, u101, u102, u103, u104, u105, u106, u107, u108, u109, u110, u111, u112, u113, u114, u115, u116, u117, u118, u119, u120, u121, u122, u123, u124, u125, u126, u127, u128, u129, u130, u131, u132, u133, u134, u135, u136, u137, u138, u139, u140, u141, u142, u143, u144, u145, u146, u147, u148, u149, u150, u151, u152, u153, u154, u155, u156, u157, u158, u159, u160, u161, u162, u163, u164, u165, u166, u167, u168, u169, u170, u171, u172, u173, u174, u175, u176, u177, u178, u179, u180, u181, u182, u183, u184, u185, u186, u187, u188, u189, u190, u191, u192, u193, u194, u195, u196, u197, u198, u199, u200], []⟩ wa := by
  have HB := hid hb
  have HB1 := hid hb1
  have HT := hid ht
  have HA := hid hag
  have HRR := hid hrr
  have R8 := hid r8
  have R9 := hid r9
  have HW := hid hpw
  clear hb hb1 ht hag hrr r8 r9 hpw
  rw [show TAIL Try.f3 16 = .seq (headS (TAIL Try.f3 16)) (TAIL Try.f3 17) from rfl]
  conv => arg 2; arg 1; whnf
  go_wp2_with fail
  refine (HA.out _ _ _ _ _ _ _ HT.out).mono ?_
  rintro e w2 ⟨rfl, q, rfl⟩
  go_wp2_with fail
  exact t17 w0 w1 _ HB.out (below_drewN HB1.out q) b f x l3 r live probes pmax agreed a8 l8 c8 a9 c9 Z8 Z9 hbb HW.out (HT.out.drewN q) (fun pp w h => HA.out _ _ _ _ _ _ _ h) HRR.out hl8 R8.out R9.out


set_option maxRecDepth 1000000 in
set_option maxHeartbeats 4000000 in
theorem t15 {u1 u2 u3 u10 u11 u12 u13 u14 u15 u16 u17 u18 u19 u20 u21 u24 u25 u26 u27 u28 u29 u30 u31 u32 u33 u34 u35 u36 u37 u38 u39 u40 u41 u42 u43 u44 u45 u46 u47 u48 u49 u50 u51 u52 u53 u54 u55 u56 u57 u58 u59 u60 u61 u62 u63 u64 u65 u66 u67 u68 u69 u70 u71 u72 u73 u74 u75 u76 u77 u78 u79 u80 u81 u82 u83 u84 u85 u86 u87 u88 u89 u90 u91 u92 u93 u94 u95 u96 u97 u98 u99 u100 u101 u102 u103 u104 u105 u106 u107 u108 u109 u110 u111 u112 u113 u114 u115 u116 u117 u118 u119 u120 u121 u122 u123 u124 u125 u126 u127 u128 u129 u130 u131 u132 u133 u134 u135 u136 u137 u138 u139 u140 u141 u142 u143 u144 u145 u146 u147 u148 u149 u150 u151 u152 u153 u154 u155 u156 u157 u158 u159 u160 u161 u162 u163 u164 u165 u166 u167 u168 u169 u170 u171 u172 u173 u174 u175 u176 u177 u178 u179 u180 u181 u182 u183 u184 u185 u186 u187 u188 u189 u190 u191 u192 u193 u194 u195 u196 u197 u198 u199 u200 : Value} (w0 w1 wa : World) (hb : Below w0.heap.size w0 w1) (hb1 : Below w1.heap.size w1 wa) (b f x l3 r : Nat) (live probes pmax agreed : Int) (a8 : Option Addr) (l8 c8 : Nat) (a9 : Option Addr) (c9 : Nat) (Z8 Z9 : Nat → Int) (hpw : wrap64 probes = probes) (hl8 : l8 ≤ 65536) (hbb : w1.heap.size ≤ b) (ht : IsTree wa b f x l3 live probes pmax agreed) (hag : ∀ b f x live pp pmax w, IsTree w b f x l3 live pp pmax agreed → Calls Try.prog 10 #[.pointer (some ⟨b, 0, none⟩)] w fun e w' => e = .returned (.float .f64 r) ∧ ∃ q, w' = w.drewN q) (hrr : FloatKind.f64.format.order r r = some .eq) (hfr : ∀ w, Calls Try.prog 9 #[.int .i64 agreed, .int .i64 (joinsOf l3)] w fun e w' => e = .returned (.float .f64 r) ∧ w' = w) (r8 : RowI w1 a8 l8 Z8) (r9 : RowI w1 a9 l8 Z9) : Code.wp Try.prog (TAIL Try.f3 15) (bodyPost Try.prog Try.f3 (Good w0)) ⟨#[.float .f64 x, u1, u2, u3, .int .i64 live, .int .i64 agreed, .int .i64 probes, .int .i64 pmax, .slice a8 l8 c8, .slice a9 l8 c9, u10, u11, u12, u13, u14, u15, u16, u17, u18, u19, u20, u21, .int .i64 (joinsOf l3), .pointer (some ⟨b, 0, none⟩), u24, u25, u26, u27, u28, u29, u30, u31, u32, u33, u34, u35, u36, u37, u38, u39, u40, u41, u42, u43, u44, u45, u46, u47, u48, u49, u50, u51, u52, u53, u54, u55, u56, u57, u58, u59, u60, u61, u62, u63, u64, u65, u66, u67, u68, u69, u70, u71, u72, u73, u74, u75, u76, u77, u78, u79, u80, u81, u82, u83, u84, u85, u86, u87, u88, u89, u90, u91, u92, u93, u94, u95, u96, u97, u98, u99, u100, u101, u102, u103, u104, u105, u106, u107, u108, u109, u110, u111, u112, u113, u114, u115, u116, u117, u118, u119, u120, u121, u122, u123, u124, u125, u126, u127, u128, u129, u130, u131, u132, u133, u134, u135, u136, u137, u138, u139, u140, u141, u142, u143, u144, u145, u146, u147, u148, u149, u150, u151, u152, u153, u154, u155, u156, u157, u158, u159, u160, u161, u162, u163, u164, u165, u166, u167, u168, u169, u170, u171, u172, u173, u174, u175, u176, u177, u178, u179, u180, u181, u182, u183, u184, u185, u186, u187, u188, u189, u190, u191, u192, u193, u194, u195, u196, u197, u198, u199, u200], []⟩ wa := by
  have HB := hid hb
  have HB1 := hid hb1
  have HT := hid ht
  have HA := hid hag
  have HF := hid hfr
  have HRR := hid hrr
  have R8 := hid r8
  have R9 := hid r9
  have HW := hid hpw
  clear hb hb1 ht hag hrr r8 r9 hpw hfr
  rw [show TAIL Try.f3 15 = .seq (headS (TAIL Try.f3 15)) (TAIL Try.f3 16) from rfl]
  conv => arg 2; arg 1; whnf
  go_wp2_with fail
  refine (HF.out _).mono ?_
  rintro e w2 ⟨rfl, rfl⟩
  go_wp2_with fail
  exact t16 w0 w1 _ HB.out HB1.out b f x l3 r live probes pmax agreed a8 l8 c8 a9 c9 Z8 Z9 HW.out hl8 hbb HT.out HA.out HRR.out R8.out R9.out


set_option maxRecDepth 1000000 in
set_option maxHeartbeats 4000000 in
theorem t14 {u10 u11 u12 u13 u14 u15 u16 u17 u18 u19 u20 u21 u23 u24 u25 u26 u27 u28 u29 u30 u31 u32 u33 u34 u35 u36 u37 u38 u39 u40 u41 u42 u43 u44 u45 u46 u47 u48 u49 u50 u51 u52 u53 u54 u55 u56 u57 u58 u59 u60 u61 u62 u63 u64 u65 u66 u67 u68 u69 u70 u71 u72 u73 u74 u75 u76 u77 u78 u79 u80 u81 u82 u83 u84 u85 u86 u87 u88 u89 u90 u91 u92 u93 u94 u95 u96 u97 u98 u99 u100 u101 u102 u103 u104 u105 u106 u107 u108 u109 u110 u111 u112 u113 u114 u115 u116 u117 u118 u119 u120 u121 u122 u123 u124 u125 u126 u127 u128 u129 u130 u131 u132 u133 u134 u135 u136 u137 u138 u139 u140 u141 u142 u143 u144 u145 u146 u147 u148 u149 u150 u151 u152 u153 u154 u155 u156 u157 u158 u159 u160 u161 u162 u163 u164 u165 u166 u167 u168 u169 u170 u171 u172 u173 u174 u175 u176 u177 u178 u179 u180 u181 u182 u183 u184 u185 u186 u187 u188 u189 u190 u191 u192 u193 u194 u195 u196 u197 u198 u199 u200 : Value} (w0 wa : World) (hb : Below w0.heap.size w0 wa) (x l3 r : Nat) (live probes pmax agreed : Int) (a8 : Option Addr) (l8 c8 : Nat) (lv : Int) (ds : ByteArray) (a3 : Option Addr) (c3 : Nat) (a9 : Option Addr) (c9 : Nat) (Z8 Z9 : Nat → Int) (hpw : wrap64 probes = probes) (hl8 : l8 ≤ 65536) (hag : ∀ b f x live pp pmax w, IsTree w b f x l3 live pp pmax agreed → Calls Try.prog 10 #[.pointer (some ⟨b, 0, none⟩)] w fun e w' => e = .returned (.float .f64 r) ∧ ∃ q, w' = w.drewN q) (hrr : FloatKind.f64.format.order r r = some .eq) (hfr : ∀ w, Calls Try.prog 9 #[.int .i64 agreed, .int .i64 (joinsOf l3)] w fun e w' => e = .returned (.float .f64 r) ∧ w' = w) (r8 : RowI wa a8 l8 Z8) (r9 : RowI wa a9 l8 Z9) : Code.wp Try.prog (TAIL Try.f3 14) (bodyPost Try.prog Try.f3 (Good w0)) ⟨#[.float .f64 x, .int .i64 lv, .string ds, .slice a3 l3 c3, .int .i64 live, .int .i64 agreed, .int .i64 probes, .int .i64 pmax, .slice a8 l8 c8, .slice a9 l8 c9, u10, u11, u12, u13, u14, u15, u16, u17, u18, u19, u20, u21, .int .i64 (joinsOf l3), u23, u24, u25, u26, u27, u28, u29, u30, u31, u32, u33, u34, u35, u36, u37, u38, u39, u40, u41, u42, u43, u44, u45, u46, u47, u48, u49, u50, u51, u52, u53, u54, u55, u56, u57, u58, u59, u60, u61, u62, u63, u64, u65, u66, u67, u68, u69, u70, u71, u72, u73, u74, u75, u76, u77, u78, u79, u80, u81, u82, u83, u84, u85, u86, u87, u88, u89, u90, u91, u92, u93, u94, u95, u96, u97, u98, u99, u100, u101, u102, u103, u104, u105, u106, u107, u108, u109, u110, u111, u112, u113, u114, u115, u116, u117, u118, u119, u120, u121, u122, u123, u124, u125, u126, u127, u128, u129, u130, u131, u132, u133, u134, u135, u136, u137, u138, u139, u140, u141, u142, u143, u144, u145, u146, u147, u148, u149, u150, u151, u152, u153, u154, u155, u156, u157, u158, u159, u160, u161, u162, u163, u164, u165, u166, u167, u168, u169, u170, u171, u172, u173, u174, u175, u176, u177, u178, u179, u180, u181, u182, u183, u184, u185, u186, u187, u188, u189, u190, u191, u192, u193, u194, u195, u196, u197, u198, u199, u200], []⟩ wa := by
  have HB := hid hb
  have HA := hid hag
  have HF := hid hfr
  have HRR := hid hrr
  have R8 := hid r8
  have R9 := hid r9
  have HW := hid hpw
  clear hb hag hrr r8 r9 hpw hfr
  rw [show TAIL Try.f3 14 = .seq (headS (TAIL Try.f3 14)) (TAIL Try.f3 15) from rfl]
  conv => arg 2; arg 1; whnf
  go_wp2_with fail
  refine (tree_any x lv live agreed probes pmax ds a3 l3 c3 _).mono ?_
  rintro e w2 ⟨rfl, ht, hb2⟩
  have HT := hid ht
  have HB2 := hid hb2
  clear ht hb2
  go_wp2_with fail
  exact t15 w0 wa _ HB.out HB2.out _ _ x l3 r live probes pmax agreed a8 l8 c8 a9 c9 Z8 Z9 HW.out hl8 (by omega) HT.out HA.out HRR.out HF.out R8.out R9.out


set_option maxRecDepth 1000000 in
set_option maxHeartbeats 4000000 in
theorem t13 {u10 u11 u12 u13 u14 u15 u16 u17 u18 u19 u20 u21 u23 u24 u25 u26 u27 u28 u29 u30 u31 u32 u33 u34 u35 u36 u37 u38 u39 u40 u41 u42 u43 u44 u45 u46 u47 u48 u49 u50 u51 u52 u53 u54 u55 u56 u57 u58 u59 u60 u61 u62 u63 u64 u65 u66 u67 u68 u69 u70 u71 u72 u73 u74 u75 u76 u77 u78 u79 u80 u81 u82 u83 u84 u85 u86 u87 u88 u89 u90 u91 u92 u93 u94 u95 u96 u97 u98 u99 u100 u101 u102 u103 u104 u105 u106 u107 u108 u109 u110 u111 u112 u113 u114 u115 u116 u117 u118 u119 u120 u121 u122 u123 u124 u125 u126 u127 u128 u129 u130 u131 u132 u133 u134 u135 u136 u137 u138 u139 u140 u141 u142 u143 u144 u145 u146 u147 u148 u149 u150 u151 u152 u153 u154 u155 u156 u157 u158 u159 u160 u161 u162 u163 u164 u165 u166 u167 u168 u169 u170 u171 u172 u173 u174 u175 u176 u177 u178 u179 u180 u181 u182 u183 u184 u185 u186 u187 u188 u189 u190 u191 u192 u193 u194 u195 u196 u197 u198 u199 u200 : Value} (w0 wa : World) (hb : Below w0.heap.size w0 wa) (x l3 r : Nat) (live probes pmax agreed : Int) (a8 : Option Addr) (l8 c8 : Nat) (lv : Int) (ds : ByteArray) (a3 : Option Addr) (c3 : Nat) (a9 : Option Addr) (c9 : Nat) (Z8 Z9 : Nat → Int) (hpw : wrap64 probes = probes) (hl8 : l8 ≤ 65536) (Z3 : Nat → Int) (hl3 : l3 ≤ 65536) (r3 : RowI wa a3 l3 Z3) (hag : ∀ b f x live pp pmax w, IsTree w b f x l3 live pp pmax agreed → Calls Try.prog 10 #[.pointer (some ⟨b, 0, none⟩)] w fun e w' => e = .returned (.float .f64 r) ∧ ∃ q, w' = w.drewN q) (hrr : FloatKind.f64.format.order r r = some .eq) (hfr : ∀ w, Calls Try.prog 9 #[.int .i64 agreed, .int .i64 (joinsOf l3)] w fun e w' => e = .returned (.float .f64 r) ∧ w' = w) (r8 : RowI wa a8 l8 Z8) (r9 : RowI wa a9 l8 Z9) : Code.wp Try.prog (TAIL Try.f3 13) (bodyPost Try.prog Try.f3 (Good w0)) ⟨#[.float .f64 x, .int .i64 lv, .string ds, .slice a3 l3 c3, .int .i64 live, .int .i64 agreed, .int .i64 probes, .int .i64 pmax, .slice a8 l8 c8, .slice a9 l8 c9, u10, u11, u12, u13, u14, u15, u16, u17, u18, u19, u20, u21, .int .i64 (joinsOf l3), u23, u24, u25, u26, u27, u28, u29, u30, u31, u32, u33, u34, u35, u36, u37, u38, u39, u40, u41, u42, u43, u44, u45, u46, u47, u48, u49, u50, u51, u52, u53, u54, u55, u56, u57, u58, u59, u60, u61, u62, u63, u64, u65, u66, u67, u68, u69, u70, u71, u72, u73, u74, u75, u76, u77, u78, u79, u80, u81, u82, u83, u84, u85, u86, u87, u88, u89, u90, u91, u92, u93, u94, u95, u96, u97, u98, u99, u100, u101, u102, u103, u104, u105, u106, u107, u108, u109, u110, u111, u112, u113, u114, u115, u116, u117, u118, u119, u120, u121, u122, u123, u124, u125, u126, u127, u128, u129, u130, u131, u132, u133, u134, u135, u136, u137, u138, u139, u140, u141, u142, u143, u144, u145, u146, u147, u148, u149, u150, u151, u152, u153, u154, u155, u156, u157, u158, u159, u160, u161, u162, u163, u164, u165, u166, u167, u168, u169, u170, u171, u172, u173, u174, u175, u176, u177, u178, u179, u180, u181, u182, u183, u184, u185, u186, u187, u188, u189, u190, u191, u192, u193, u194, u195, u196, u197, u198, u199, u200], []⟩ wa := by
  have hcl := hid (clone_any a3 l3 c3 Z3 wa (by omega) r3)
  clear r3
  have HB := hid hb
  have HA := hid hag
  have HF := hid hfr
  have HRR := hid hrr
  have R8 := hid r8
  have R9 := hid r9
  have HW := hid hpw
  clear hb hag hrr r8 r9 hpw hfr
  rw [show TAIL Try.f3 13 = .seq (headS (TAIL Try.f3 13)) (TAIL Try.f3 14) from rfl]
  conv => arg 2; arg 1; whnf
  go_wp2_with fail
  refine hcl.out.mono ?_
  rintro e w2 ⟨a', c', rfl, hb2⟩
  have HB2 := hid hb2
  clear hb2
  go_wp2_with fail
  exact t14 w0 _ (HB.out.trans (HB2.out.mono HB.out.size)) x l3 r live probes pmax agreed a8 l8 c8 lv ds a' c' a9 c9 Z8 Z9 HW.out hl8 HA.out HRR.out HF.out (R8.out.later HB2.out) (R9.out.later HB2.out)


set_option maxRecDepth 1000000 in
set_option maxHeartbeats 4000000 in
theorem t12 {u10 u11 u12 u13 u14 u15 u16 u17 u18 u19 u20 u23 u24 u25 u26 u27 u28 u29 u30 u31 u32 u33 u34 u35 u36 u37 u38 u39 u40 u41 u42 u43 u44 u45 u46 u47 u48 u49 u50 u51 u52 u53 u54 u55 u56 u57 u58 u59 u60 u61 u62 u63 u64 u65 u66 u67 u68 u69 u70 u71 u72 u73 u74 u75 u76 u77 u78 u79 u80 u81 u82 u83 u84 u85 u86 u87 u88 u89 u90 u91 u92 u93 u94 u95 u96 u97 u98 u99 u100 u101 u102 u103 u104 u105 u106 u107 u108 u109 u110 u111 u112 u113 u114 u115 u116 u117 u118 u119 u120 u121 u122 u123 u124 u125 u126 u127 u128 u129 u130 u131 u132 u133 u134 u135 u136 u137 u138 u139 u140 u141 u142 u143 u144 u145 u146 u147 u148 u149 u150 u151 u152 u153 u154 u155 u156 u157 u158 u159 u160 u161 u162 u163 u164 u165 u166 u167 u168 u169 u170 u171 u172 u173 u174 u175 u176 u177 u178 u179 u180 u181 u182 u183 u184 u185 u186 u187 u188 u189 u190 u191 u192 u193 u194 u195 u196 u197 u198 u199 u200 : Value} (w0 wa : World) (hb : Below w0.heap.size w0 wa) (x l3 r : Nat) (live probes pmax agreed : Int) (a8 : Option Addr) (l8 c8 : Nat) (lv : Int) (ds : ByteArray) (a3 : Option Addr) (c3 : Nat) (a9 : Option Addr) (c9 : Nat) (Z8 Z9 : Nat → Int) (hpw : wrap64 probes = probes) (hl8 : l8 ≤ 65536) (Z3 : Nat → Int) (hl3 : l3 ≤ 65536) (r3 : RowI wa a3 l3 Z3) (hag : ∀ b f x live pp pmax w, IsTree w b f x l3 live pp pmax agreed → Calls Try.prog 10 #[.pointer (some ⟨b, 0, none⟩)] w fun e w' => e = .returned (.float .f64 r) ∧ ∃ q, w' = w.drewN q) (hrr : FloatKind.f64.format.order r r = some .eq) (hfr : ∀ w, Calls Try.prog 9 #[.int .i64 agreed, .int .i64 (joinsOf l3)] w fun e w' => e = .returned (.float .f64 r) ∧ w' = w) (r8 : RowI wa a8 l8 Z8) (r9 : RowI wa a9 l8 Z9) : Code.wp Try.prog (TAIL Try.f3 12) (bodyPost Try.prog Try.f3 (Good w0)) ⟨#[.float .f64 x, .int .i64 lv, .string ds, .slice a3 l3 c3, .int .i64 live, .int .i64 agreed, .int .i64 probes, .int .i64 pmax, .slice a8 l8 c8, .slice a9 l8 c9, u10, u11, u12, u13, u14, u15, u16, u17, u18, u19, u20, .int .i64 (l3 : Int), .int .i64 (joinsOf l3), u23, u24, u25, u26, u27, u28, u29, u30, u31, u32, u33, u34, u35, u36, u37, u38, u39, u40, u41, u42, u43, u44, u45, u46, u47, u48, u49, u50, u51, u52, u53, u54, u55, u56, u57, u58, u59, u60, u61, u62, u63, u64, u65, u66, u67, u68, u69, u70, u71, u72, u73, u74, u75, u76, u77, u78, u79, u80, u81, u82, u83, u84, u85, u86, u87, u88, u89, u90, u91, u92, u93, u94, u95, u96, u97, u98, u99, u100, u101, u102, u103, u104, u105, u106, u107, u108, u109, u110, u111, u112, u113, u114, u115, u116, u117, u118, u119, u120, u121, u122, u123, u124, u125, u126, u127, u128, u129, u130, u131, u132, u133, u134, u135, u136, u137, u138, u139, u140, u141, u142, u143, u144, u145, u146, u147, u148, u149, u150, u151, u152, u153, u154, u155, u156, u157, u158, u159, u160, u161, u162, u163, u164, u165, u166, u167, u168, u169, u170, u171, u172, u173, u174, u175, u176, u177, u178, u179, u180, u181, u182, u183, u184, u185, u186, u187, u188, u189, u190, u191, u192, u193, u194, u195, u196, u197, u198, u199, u200], []⟩ wa := by
  have R3 := hid r3
  clear r3
  have HB := hid hb
  have HA := hid hag
  have HF := hid hfr
  have HRR := hid hrr
  have R8 := hid r8
  have R9 := hid r9
  have HW := hid hpw
  clear hb hag hrr r8 r9 hpw hfr
  rw [show TAIL Try.f3 12 = .seq (headS (TAIL Try.f3 12)) (TAIL Try.f3 13) from rfl]
  conv => arg 2; arg 1; whnf
  go_wp2_with fail
  all_goals first
    | (go_ret; exact ⟨rfl, HB.out⟩)
    | exact t13 w0 _ HB.out x l3 r live probes pmax agreed a8 l8 c8 lv ds a3 c3 a9 c9 Z8 Z9 HW.out hl8 Z3 hl3 R3.out HA.out HRR.out HF.out R8.out R9.out


set_option maxRecDepth 1000000 in
set_option maxHeartbeats 4000000 in
theorem t11 {u10 u11 u12 u13 u14 u15 u16 u17 u18 u19 u20 u23 u24 u25 u26 u27 u28 u29 u30 u31 u32 u33 u34 u35 u36 u37 u38 u39 u40 u41 u42 u43 u44 u45 u46 u47 u48 u49 u50 u51 u52 u53 u54 u55 u56 u57 u58 u59 u60 u61 u62 u63 u64 u65 u66 u67 u68 u69 u70 u71 u72 u73 u74 u75 u76 u77 u78 u79 u80 u81 u82 u83 u84 u85 u86 u87 u88 u89 u90 u91 u92 u93 u94 u95 u96 u97 u98 u99 u100 u101 u102 u103 u104 u105 u106 u107 u108 u109 u110 u111 u112 u113 u114 u115 u116 u117 u118 u119 u120 u121 u122 u123 u124 u125 u126 u127 u128 u129 u130 u131 u132 u133 u134 u135 u136 u137 u138 u139 u140 u141 u142 u143 u144 u145 u146 u147 u148 u149 u150 u151 u152 u153 u154 u155 u156 u157 u158 u159 u160 u161 u162 u163 u164 u165 u166 u167 u168 u169 u170 u171 u172 u173 u174 u175 u176 u177 u178 u179 u180 u181 u182 u183 u184 u185 u186 u187 u188 u189 u190 u191 u192 u193 u194 u195 u196 u197 u198 u199 u200 : Value} (w0 wa : World) (hb : Below w0.heap.size w0 wa) (x l3 r : Nat) (live probes pmax agreed : Int) (a8 : Option Addr) (l8 c8 : Nat) (lv : Int) (ds : ByteArray) (a3 : Option Addr) (c3 : Nat) (a9 : Option Addr) (c9 : Nat) (Z8 Z9 : Nat → Int) (hpw : wrap64 probes = probes) (hl8 : l8 ≤ 65536) (Z3 : Nat → Int) (hl3 : l3 ≤ 65536) (r3 : RowI wa a3 l3 Z3) (hag : ∀ b f x live pp pmax w, IsTree w b f x l3 live pp pmax agreed → Calls Try.prog 10 #[.pointer (some ⟨b, 0, none⟩)] w fun e w' => e = .returned (.float .f64 r) ∧ ∃ q, w' = w.drewN q) (hrr : FloatKind.f64.format.order r r = some .eq) (hfr : ∀ w, Calls Try.prog 9 #[.int .i64 agreed, .int .i64 (joinsOf l3)] w fun e w' => e = .returned (.float .f64 r) ∧ w' = w) (r8 : RowI wa a8 l8 Z8) (r9 : RowI wa a9 l8 Z9) : Code.wp Try.prog (TAIL Try.f3 11) (bodyPost Try.prog Try.f3 (Good w0)) ⟨#[.float .f64 x, .int .i64 lv, .string ds, .slice a3 l3 c3, .int .i64 live, .int .i64 agreed, .int .i64 probes, .int .i64 pmax, .slice a8 l8 c8, .slice a9 l8 c9, u10, u11, u12, u13, u14, u15, u16, u17, u18, u19, u20, .int .i64 (l3 : Int), .int .i64 (joinsOf l3), u23, u24, u25, u26, u27, u28, u29, u30, u31, u32, u33, u34, u35, u36, u37, u38, u39, u40, u41, u42, u43, u44, u45, u46, u47, u48, u49, u50, u51, u52, u53, u54, u55, u56, u57, u58, u59, u60, u61, u62, u63, u64, u65, u66, u67, u68, u69, u70, u71, u72, u73, u74, u75, u76, u77, u78, u79, u80, u81, u82, u83, u84, u85, u86, u87, u88, u89, u90, u91, u92, u93, u94, u95, u96, u97, u98, u99, u100, u101, u102, u103, u104, u105, u106, u107, u108, u109, u110, u111, u112, u113, u114, u115, u116, u117, u118, u119, u120, u121, u122, u123, u124, u125, u126, u127, u128, u129, u130, u131, u132, u133, u134, u135, u136, u137, u138, u139, u140, u141, u142, u143, u144, u145, u146, u147, u148, u149, u150, u151, u152, u153, u154, u155, u156, u157, u158, u159, u160, u161, u162, u163, u164, u165, u166, u167, u168, u169, u170, u171, u172, u173, u174, u175, u176, u177, u178, u179, u180, u181, u182, u183, u184, u185, u186, u187, u188, u189, u190, u191, u192, u193, u194, u195, u196, u197, u198, u199, u200], []⟩ wa := by
  have R3 := hid r3
  clear r3
  have HB := hid hb
  have HA := hid hag
  have HF := hid hfr
  have HRR := hid hrr
  have R8 := hid r8
  have R9 := hid r9
  have HW := hid hpw
  clear hb hag hrr r8 r9 hpw hfr
  rw [show TAIL Try.f3 11 = .seq (headS (TAIL Try.f3 11)) (TAIL Try.f3 12) from rfl]
  conv => arg 2; arg 1; whnf
  go_wp2_with fail
  all_goals first
    | (go_ret; exact ⟨rfl, HB.out⟩)
    | exact t12 w0 _ HB.out x l3 r live probes pmax agreed a8 l8 c8 lv ds a3 c3 a9 c9 Z8 Z9 HW.out hl8 Z3 hl3 R3.out HA.out HRR.out HF.out R8.out R9.out


set_option maxRecDepth 1000000 in
set_option maxHeartbeats 4000000 in
theorem t10 {u10 u11 u12 u13 u14 u15 u16 u17 u18 u19 u20 u23 u24 u25 u26 u27 u28 u29 u30 u31 u32 u33 u34 u35 u36 u37 u38 u39 u40 u41 u42 u43 u44 u45 u46 u47 u48 u49 u50 u51 u52 u53 u54 u55 u56 u57 u58 u59 u60 u61 u62 u63 u64 u65 u66 u67 u68 u69 u70 u71 u72 u73 u74 u75 u76 u77 u78 u79 u80 u81 u82 u83 u84 u85 u86 u87 u88 u89 u90 u91 u92 u93 u94 u95 u96 u97 u98 u99 u100 u101 u102 u103 u104 u105 u106 u107 u108 u109 u110 u111 u112 u113 u114 u115 u116 u117 u118 u119 u120 u121 u122 u123 u124 u125 u126 u127 u128 u129 u130 u131 u132 u133 u134 u135 u136 u137 u138 u139 u140 u141 u142 u143 u144 u145 u146 u147 u148 u149 u150 u151 u152 u153 u154 u155 u156 u157 u158 u159 u160 u161 u162 u163 u164 u165 u166 u167 u168 u169 u170 u171 u172 u173 u174 u175 u176 u177 u178 u179 u180 u181 u182 u183 u184 u185 u186 u187 u188 u189 u190 u191 u192 u193 u194 u195 u196 u197 u198 u199 u200 : Value} (w0 wa : World) (hb : Below w0.heap.size w0 wa) (x l3 r : Nat) (live probes pmax agreed : Int) (a8 : Option Addr) (l8 c8 : Nat) (lv : Int) (ds : ByteArray) (a3 : Option Addr) (c3 : Nat) (a9 : Option Addr) (c9 : Nat) (Z8 Z9 : Nat → Int) (hpw : wrap64 probes = probes) (hl8 : l8 ≤ 65536) (Z3 : Nat → Int) (hl3 : l3 ≤ 65536) (r3 : RowI wa a3 l3 Z3) (hag : ∀ b f x live pp pmax w, IsTree w b f x l3 live pp pmax agreed → Calls Try.prog 10 #[.pointer (some ⟨b, 0, none⟩)] w fun e w' => e = .returned (.float .f64 r) ∧ ∃ q, w' = w.drewN q) (hrr : FloatKind.f64.format.order r r = some .eq) (hfr : ∀ w, Calls Try.prog 9 #[.int .i64 agreed, .int .i64 (joinsOf l3)] w fun e w' => e = .returned (.float .f64 r) ∧ w' = w) (r8 : RowI wa a8 l8 Z8) (r9 : RowI wa a9 l8 Z9) : Code.wp Try.prog (TAIL Try.f3 10) (bodyPost Try.prog Try.f3 (Good w0)) ⟨#[.float .f64 x, .int .i64 lv, .string ds, .slice a3 l3 c3, .int .i64 live, .int .i64 agreed, .int .i64 probes, .int .i64 pmax, .slice a8 l8 c8, .slice a9 l8 c9, u10, u11, u12, u13, u14, u15, u16, u17, u18, u19, u20, .int .i64 (l3 : Int), .int .i64 (joinsOf l3), u23, u24, u25, u26, u27, u28, u29, u30, u31, u32, u33, u34, u35, u36, u37, u38, u39, u40, u41, u42, u43, u44, u45, u46, u47, u48, u49, u50, u51, u52, u53, u54, u55, u56, u57, u58, u59, u60, u61, u62, u63, u64, u65, u66, u67, u68, u69, u70, u71, u72, u73, u74, u75, u76, u77, u78, u79, u80, u81, u82, u83, u84, u85, u86, u87, u88, u89, u90, u91, u92, u93, u94, u95, u96, u97, u98, u99, u100, u101, u102, u103, u104, u105, u106, u107, u108, u109, u110, u111, u112, u113, u114, u115, u116, u117, u118, u119, u120, u121, u122, u123, u124, u125, u126, u127, u128, u129, u130, u131, u132, u133, u134, u135, u136, u137, u138, u139, u140, u141, u142, u143, u144, u145, u146, u147, u148, u149, u150, u151, u152, u153, u154, u155, u156, u157, u158, u159, u160, u161, u162, u163, u164, u165, u166, u167, u168, u169, u170, u171, u172, u173, u174, u175, u176, u177, u178, u179, u180, u181, u182, u183, u184, u185, u186, u187, u188, u189, u190, u191, u192, u193, u194, u195, u196, u197, u198, u199, u200], []⟩ wa := by
  have R3 := hid r3
  clear r3
  have HB := hid hb
  have HA := hid hag
  have HF := hid hfr
  have HRR := hid hrr
  have R8 := hid r8
  have R9 := hid r9
  have HW := hid hpw
  clear hb hag hrr r8 r9 hpw hfr
  rw [show TAIL Try.f3 10 = .seq (headS (TAIL Try.f3 10)) (TAIL Try.f3 11) from rfl]
  conv => arg 2; arg 1; whnf
  go_wp2_with fail
  all_goals first
    | (go_ret; exact ⟨rfl, HB.out⟩)
    | exact t11 w0 _ HB.out x l3 r live probes pmax agreed a8 l8 c8 lv ds a3 c3 a9 c9 Z8 Z9 HW.out hl8 Z3 hl3 R3.out HA.out HRR.out HF.out R8.out R9.out


set_option maxRecDepth 1000000 in
set_option maxHeartbeats 4000000 in
theorem t9 {u10 u11 u12 u13 u14 u15 u16 u17 u18 u19 u20 u23 u24 u25 u26 u27 u28 u29 u30 u31 u32 u33 u34 u35 u36 u37 u38 u39 u40 u41 u42 u43 u44 u45 u46 u47 u48 u49 u50 u51 u52 u53 u54 u55 u56 u57 u58 u59 u60 u61 u62 u63 u64 u65 u66 u67 u68 u69 u70 u71 u72 u73 u74 u75 u76 u77 u78 u79 u80 u81 u82 u83 u84 u85 u86 u87 u88 u89 u90 u91 u92 u93 u94 u95 u96 u97 u98 u99 u100 u101 u102 u103 u104 u105 u106 u107 u108 u109 u110 u111 u112 u113 u114 u115 u116 u117 u118 u119 u120 u121 u122 u123 u124 u125 u126 u127 u128 u129 u130 u131 u132 u133 u134 u135 u136 u137 u138 u139 u140 u141 u142 u143 u144 u145 u146 u147 u148 u149 u150 u151 u152 u153 u154 u155 u156 u157 u158 u159 u160 u161 u162 u163 u164 u165 u166 u167 u168 u169 u170 u171 u172 u173 u174 u175 u176 u177 u178 u179 u180 u181 u182 u183 u184 u185 u186 u187 u188 u189 u190 u191 u192 u193 u194 u195 u196 u197 u198 u199 u200 : Value} (w0 wa : World) (hb : Below w0.heap.size w0 wa) (x l3 r : Nat) (live probes pmax agreed : Int) (a8 : Option Addr) (l8 c8 : Nat) (lv : Int) (ds : ByteArray) (a3 : Option Addr) (c3 : Nat) (a9 : Option Addr) (c9 : Nat) (Z8 Z9 : Nat → Int) (hpw : wrap64 probes = probes) (hl8 : l8 ≤ 65536) (Z3 : Nat → Int) (hl3 : l3 ≤ 65536) (r3 : RowI wa a3 l3 Z3) (hag : ∀ b f x live pp pmax w, IsTree w b f x l3 live pp pmax agreed → Calls Try.prog 10 #[.pointer (some ⟨b, 0, none⟩)] w fun e w' => e = .returned (.float .f64 r) ∧ ∃ q, w' = w.drewN q) (hrr : FloatKind.f64.format.order r r = some .eq) (hfr : ∀ w, Calls Try.prog 9 #[.int .i64 agreed, .int .i64 (joinsOf l3)] w fun e w' => e = .returned (.float .f64 r) ∧ w' = w) (r8 : RowI wa a8 l8 Z8) (r9 : RowI wa a9 l8 Z9) : Code.wp Try.prog (TAIL Try.f3 9) (bodyPost Try.prog Try.f3 (Good w0)) ⟨#[.float .f64 x, .int .i64 lv, .string ds, .slice a3 l3 c3, .int .i64 live, .int .i64 agreed, .int .i64 probes, .int .i64 pmax, .slice a8 l8 c8, .slice a9 l8 c9, u10, u11, u12, u13, u14, u15, u16, u17, u18, u19, u20, .int .i64 (l3 : Int), .int .i64 (joinsOf l3), u23, u24, u25, u26, u27, u28, u29, u30, u31, u32, u33, u34, u35, u36, u37, u38, u39, u40, u41, u42, u43, u44, u45, u46, u47, u48, u49, u50, u51, u52, u53, u54, u55, u56, u57, u58, u59, u60, u61, u62, u63, u64, u65, u66, u67, u68, u69, u70, u71, u72, u73, u74, u75, u76, u77, u78, u79, u80, u81, u82, u83, u84, u85, u86, u87, u88, u89, u90, u91, u92, u93, u94, u95, u96, u97, u98, u99, u100, u101, u102, u103, u104, u105, u106, u107, u108, u109, u110, u111, u112, u113, u114, u115, u116, u117, u118, u119, u120, u121, u122, u123, u124, u125, u126, u127, u128, u129, u130, u131, u132, u133, u134, u135, u136, u137, u138, u139, u140, u141, u142, u143, u144, u145, u146, u147, u148, u149, u150, u151, u152, u153, u154, u155, u156, u157, u158, u159, u160, u161, u162, u163, u164, u165, u166, u167, u168, u169, u170, u171, u172, u173, u174, u175, u176, u177, u178, u179, u180, u181, u182, u183, u184, u185, u186, u187, u188, u189, u190, u191, u192, u193, u194, u195, u196, u197, u198, u199, u200], []⟩ wa := by
  have R3 := hid r3
  clear r3
  have HB := hid hb
  have HA := hid hag
  have HF := hid hfr
  have HRR := hid hrr
  have R8 := hid r8
  have R9 := hid r9
  have HW := hid hpw
  clear hb hag hrr r8 r9 hpw hfr
  rw [show TAIL Try.f3 9 = .seq (headS (TAIL Try.f3 9)) (TAIL Try.f3 10) from rfl]
  conv => arg 2; arg 1; whnf
  go_wp2_with fail
  all_goals first
    | (go_ret; exact ⟨rfl, HB.out⟩)
    | exact t10 w0 _ HB.out x l3 r live probes pmax agreed a8 l8 c8 lv ds a3 c3 a9 c9 Z8 Z9 HW.out hl8 Z3 hl3 R3.out HA.out HRR.out HF.out R8.out R9.out


set_option maxRecDepth 1000000 in
set_option maxHeartbeats 4000000 in
theorem t8 {u10 u11 u12 u13 u14 u15 u16 u17 u18 u19 u20 u23 u24 u25 u26 u27 u28 u29 u30 u31 u32 u33 u34 u35 u36 u37 u38 u39 u40 u41 u42 u43 u44 u45 u46 u47 u48 u49 u50 u51 u52 u53 u54 u55 u56 u57 u58 u59 u60 u61 u62 u63 u64 u65 u66 u67 u68 u69 u70 u71 u72 u73 u74 u75 u76 u77 u78 u79 u80 u81 u82 u83 u84 u85 u86 u87 u88 u89 u90 u91 u92 u93 u94 u95 u96 u97 u98 u99 u100 u101 u102 u103 u104 u105 u106 u107 u108 u109 u110 u111 u112 u113 u114 u115 u116 u117 u118 u119 u120 u121 u122 u123 u124 u125 u126 u127 u128 u129 u130 u131 u132 u133 u134 u135 u136 u137 u138 u139 u140 u141 u142 u143 u144 u145 u146 u147 u148 u149 u150 u151 u152 u153 u154 u155 u156 u157 u158 u159 u160 u161 u162 u163 u164 u165 u166 u167 u168 u169 u170 u171 u172 u173 u174 u175 u176 u177 u178 u179 u180 u181 u182 u183 u184 u185 u186 u187 u188 u189 u190 u191 u192 u193 u194 u195 u196 u197 u198 u199 u200 : Value} (w0 wa : World) (hb : Below w0.heap.size w0 wa) (x l3 : Nat) (live probes pmax agreed : Int) (a8 : Option Addr) (l8 c8 : Nat) (lv : Int) (ds : ByteArray) (a3 : Option Addr) (c3 : Nat) (a9 : Option Addr) (c9 : Nat) (Z8 Z9 : Nat → Int) (hpw : wrap64 probes = probes) (hl8 : l8 ≤ 65536) (Z3 : Nat → Int) (hl3 : l3 ≤ 65536) (r3 : RowI wa a3 l3 Z3) (r8 : RowI wa a8 l8 Z8) (r9 : RowI wa a9 l8 Z9) : Code.wp Try.prog (TAIL Try.f3 8) (bodyPost Try.prog Try.f3 (Good w0)) ⟨#[.float .f64 x, .int .i64 lv, .string ds, .slice a3 l3 c3, .int .i64 live, .int .i64 agreed, .int .i64 probes, .int .i64 pmax, .slice a8 l8 c8, .slice a9 l8 c9, u10, u11, u12, u13, u14, u15, u16, u17, u18, u19, u20, .int .i64 (l3 : Int), .int .i64 (joinsOf l3), u23, u24, u25, u26, u27, u28, u29, u30, u31, u32, u33, u34, u35, u36, u37, u38, u39, u40, u41, u42, u43, u44, u45, u46, u47, u48, u49, u50, u51, u52, u53, u54, u55, u56, u57, u58, u59, u60, u61, u62, u63, u64, u65, u66, u67, u68, u69, u70, u71, u72, u73, u74, u75, u76, u77, u78, u79, u80, u81, u82, u83, u84, u85, u86, u87, u88, u89, u90, u91, u92, u93, u94, u95, u96, u97, u98, u99, u100, u101, u102, u103, u104, u105, u106, u107, u108, u109, u110, u111, u112, u113, u114, u115, u116, u117, u118, u119, u120, u121, u122, u123, u124, u125, u126, u127, u128, u129, u130, u131, u132, u133, u134, u135, u136, u137, u138, u139, u140, u141, u142, u143, u144, u145, u146, u147, u148, u149, u150, u151, u152, u153, u154, u155, u156, u157, u158, u159, u160, u161, u162, u163, u164, u165, u166, u167, u168, u169, u170, u171, u172, u173, u174, u175, u176, u177, u178, u179, u180, u181, u182, u183, u184, u185, u186, u187, u188, u189, u190, u191, u192, u193, u194, u195, u196, u197, u198, u199, u200], []⟩ wa := by
  have HB := hid hb
  have R3 := hid r3
  have R8 := hid r8
  have R9 := hid r9
  have HW := hid hpw
  clear hb r3 r8 r9 hpw
  rw [show TAIL Try.f3 8 = .seq (headS (TAIL Try.f3 8)) (TAIL Try.f3 9) from rfl]
  conv => arg 2; arg 1; whnf
  by_cases e1 : agreed < 0
  · go_wp2_with fail
    all_goals (go_ret; exact ⟨rfl, HB.out⟩)
  by_cases e2 : joinsOf l3 < agreed
  · go_wp2_with fail
    all_goals (go_ret; exact ⟨rfl, HB.out⟩)
  obtain ⟨r, hrr, hfr, hag⟩ := agree_all l3 agreed hl3 (by omega) (by omega)
  have HA := hid hag
  have HF := hid hfr
  have HRR := hid hrr
  clear hag hfr hrr
  go_wp2_with fail
  all_goals first
    | (go_ret; exact ⟨rfl, HB.out⟩)
    | exact t9 w0 _ HB.out x l3 r live probes pmax agreed a8 l8 c8 lv ds a3 c3 a9 c9 Z8 Z9 HW.out hl8 Z3 hl3 R3.out HA.out HRR.out HF.out R8.out R9.out


set_option maxRecDepth 1000000 in
set_option maxHeartbeats 4000000 in
theorem t7 {u10 u11 u12 u13 u14 u15 u16 u17 u18 u19 u20 u22 u23 u24 u25 u26 u27 u28 u29 u30 u31 u32 u33 u34 u35 u36 u37 u38 u39 u40 u41 u42 u43 u44 u45 u46 u47 u48 u49 u50 u51 u52 u53 u54 u55 u56 u57 u58 u59 u60 u61 u62 u63 u64 u65 u66 u67 u68 u69 u70 u71 u72 u73 u74 u75 u76 u77 u78 u79 u80 u81 u82 u83 u84 u85 u86 u87 u88 u89 u90 u91 u92 u93 u94 u95 u96 u97 u98 u99 u100 u101 u102 u103 u104 u105 u106 u107 u108 u109 u110 u111 u112 u113 u114 u115 u116 u117 u118 u119 u120 u121 u122 u123 u124 u125 u126 u127 u128 u129 u130 u131 u132 u133 u134 u135 u136 u137 u138 u139 u140 u141 u142 u143 u144 u145 u146 u147 u148 u149 u150 u151 u152 u153 u154 u155 u156 u157 u158 u159 u160 u161 u162 u163 u164 u165 u166 u167 u168 u169 u170 u171 u172 u173 u174 u175 u176 u177 u178 u179 u180 u181 u182 u183 u184 u185 u186 u187 u188 u189 u190 u191 u192 u193 u194 u195 u196 u197 u198 u199 u200 : Value} (w0 wa : World) (hb : Below w0.heap.size w0 wa) (x l3 : Nat) (live probes pmax agreed : Int) (a8 : Option Addr) (l8 c8 : Nat) (lv : Int) (ds : ByteArray) (a3 : Option Addr) (c3 : Nat) (a9 : Option Addr) (c9 : Nat) (Z8 Z9 : Nat → Int) (hpw : wrap64 probes = probes) (hl8 : l8 ≤ 65536) (Z3 : Nat → Int) (hl3 : l3 ≤ 65536) (r3 : RowI wa a3 l3 Z3) (r8 : RowI wa a8 l8 Z8) (r9 : RowI wa a9 l8 Z9) : Code.wp Try.prog (TAIL Try.f3 7) (bodyPost Try.prog Try.f3 (Good w0)) ⟨#[.float .f64 x, .int .i64 lv, .string ds, .slice a3 l3 c3, .int .i64 live, .int .i64 agreed, .int .i64 probes, .int .i64 pmax, .slice a8 l8 c8, .slice a9 l8 c9, u10, u11, u12, u13, u14, u15, u16, u17, u18, u19, u20, .int .i64 (l3 : Int), u22, u23, u24, u25, u26, u27, u28, u29, u30, u31, u32, u33, u34, u35, u36, u37, u38, u39, u40, u41, u42, u43, u44, u45, u46, u47, u48, u49, u50, u51, u52, u53, u54, u55, u56, u57, u58, u59, u60, u61, u62, u63, u64, u65, u66, u67, u68, u69, u70, u71, u72, u73, u74, u75, u76, u77, u78, u79, u80, u81, u82, u83, u84, u85, u86, u87, u88, u89, u90, u91, u92, u93, u94, u95, u96, u97, u98, u99, u100, u101, u102, u103, u104, u105, u106, u107, u108, u109, u110, u111, u112, u113, u114, u115, u116, u117, u118, u119, u120, u121, u122, u123, u124, u125, u126, u127, u128, u129, u130, u131, u132, u133, u134, u135, u136, u137, u138, u139, u140, u141, u142, u143, u144, u145, u146, u147, u148, u149, u150, u151, u152, u153, u154, u155, u156, u157, u158, u159, u160, u161, u162, u163, u164, u165, u166, u167, u168, u169, u170, u171, u172, u173, u174, u175, u176, u177, u178, u179, u180, u181, u182, u183, u184, u185, u186, u187, u188, u189, u190, u191, u192, u193, u194, u195, u196, u197, u198, u199, u200], []⟩ wa := by
  have HB := hid hb
  have R3 := hid r3
  have R8 := hid r8
  have R9 := hid r9
  have HW := hid hpw
  clear hb r3 r8 r9 hpw
  rw [show TAIL Try.f3 7 = .seq (headS (TAIL Try.f3 7)) (TAIL Try.f3 8) from rfl]
  conv => arg 2; arg 1; whnf
  by_cases h0 : l3 = 0
  · subst h0
    go_wp2_with fail
    refine (joins_zero _).mono ?_
    rintro e w1 ⟨rfl, rfl⟩
    go_wp2_with fail
    exact t8 w0 _ HB.out x 0 live probes pmax agreed a8 l8 c8 lv ds a3 c3 a9 c9 Z8 Z9 HW.out hl8 Z3 hl3 R3.out R8.out R9.out
  · have ej := hid (show (l3 : Int) - 1 = joinsOf l3 by unfold joinsOf; rw [if_neg h0])
    go_wp2_with fail
    refine (joins_pos l3 _ (by omega) (by omega)).mono ?_
    rintro e w1 ⟨rfl, rfl⟩
    rw [ej.out]
    go_wp2_with fail
    exact t8 w0 _ HB.out x l3 live probes pmax agreed a8 l8 c8 lv ds a3 c3 a9 c9 Z8 Z9 HW.out hl8 Z3 hl3 R3.out R8.out R9.out


set_option maxRecDepth 1000000 in
set_option maxHeartbeats 4000000 in
theorem t6 {u10 u11 u12 u13 u14 u15 u16 u17 u18 u19 u20 u21 u22 u23 u24 u25 u26 u27 u28 u29 u30 u31 u32 u33 u34 u35 u36 u37 u38 u39 u40 u41 u42 u43 u44 u45 u46 u47 u48 u49 u50 u51 u52 u53 u54 u55 u56 u57 u58 u59 u60 u61 u62 u63 u64 u65 u66 u67 u68 u69 u70 u71 u72 u73 u74 u75 u76 u77 u78 u79 u80 u81 u82 u83 u84 u85 u86 u87 u88 u89 u90 u91 u92 u93 u94 u95 u96 u97 u98 u99 u100 u101 u102 u103 u104 u105 u106 u107 u108 u109 u110 u111 u112 u113 u114 u115 u116 u117 u118 u119 u120 u121 u122 u123 u124 u125 u126 u127 u128 u129 u130 u131 u132 u133 u134 u135 u136 u137 u138 u139 u140 u141 u142 u143 u144 u145 u146 u147 u148 u149 u150 u151 u152 u153 u154 u155 u156 u157 u158 u159 u160 u161 u162 u163 u164 u165 u166 u167 u168 u169 u170 u171 u172 u173 u174 u175 u176 u177 u178 u179 u180 u181 u182 u183 u184 u185 u186 u187 u188 u189 u190 u191 u192 u193 u194 u195 u196 u197 u198 u199 u200 : Value} (w0 wa : World) (hb : Below w0.heap.size w0 wa) (x l3 : Nat) (live probes pmax agreed : Int) (a8 : Option Addr) (l8 c8 : Nat) (lv : Int) (ds : ByteArray) (a3 : Option Addr) (c3 : Nat) (a9 : Option Addr) (c9 : Nat) (Z8 Z9 : Nat → Int) (hpw : wrap64 probes = probes) (hl8 : l8 ≤ 65536) (Z3 : Nat → Int) (hl3 : l3 ≤ 65536) (r3 : RowI wa a3 l3 Z3) (r8 : RowI wa a8 l8 Z8) (r9 : RowI wa a9 l8 Z9) : Code.wp Try.prog (TAIL Try.f3 6) (bodyPost Try.prog Try.f3 (Good w0)) ⟨#[.float .f64 x, .int .i64 lv, .string ds, .slice a3 l3 c3, .int .i64 live, .int .i64 agreed, .int .i64 probes, .int .i64 pmax, .slice a8 l8 c8, .slice a9 l8 c9, u10, u11, u12, u13, u14, u15, u16, u17, u18, u19, u20, u21, u22, u23, u24, u25, u26, u27, u28, u29, u30, u31, u32, u33, u34, u35, u36, u37, u38, u39, u40, u41, u42, u43, u44, u45, u46, u47, u48, u49, u50, u51, u52, u53, u54, u55, u56, u57, u58, u59, u60, u61, u62, u63, u64, u65, u66, u67, u68, u69, u70, u71, u72, u73, u74, u75, u76, u77, u78, u79, u80, u81, u82, u83, u84, u85, u86, u87, u88, u89, u90, u91, u92, u93, u94, u95, u96, u97, u98, u99, u100, u101, u102, u103, u104, u105, u106, u107, u108, u109, u110, u111, u112, u113, u114, u115, u116, u117, u118, u119, u120, u121, u122, u123, u124, u125, u126, u127, u128, u129, u130, u131, u132, u133, u134, u135, u136, u137, u138, u139, u140, u141, u142, u143, u144, u145, u146, u147, u148, u149, u150, u151, u152, u153, u154, u155, u156, u157, u158, u159, u160, u161, u162, u163, u164, u165, u166, u167, u168, u169, u170, u171, u172, u173, u174, u175, u176, u177, u178, u179, u180, u181, u182, u183, u184, u185, u186, u187, u188, u189, u190, u191, u192, u193, u194, u195, u196, u197, u198, u199, u200], []⟩ wa := by
  have HB := hid hb
  have R3 := hid r3
  have R8 := hid r8
  have R9 := hid r9
  have HW := hid hpw
  clear hb r3 r8 r9 hpw
  rw [show TAIL Try.f3 6 = .seq (headS (TAIL Try.f3 6)) (TAIL Try.f3 7) from rfl]
  conv => arg 2; arg 1; whnf
  go_wp2_with fail
  exact t7 w0 _ HB.out x l3 live probes pmax agreed a8 l8 c8 lv ds a3 c3 a9 c9 Z8 Z9 HW.out hl8 Z3 hl3 R3.out R8.out R9.out


set_option maxRecDepth 1000000 in
set_option maxHeartbeats 4000000 in
theorem t5 {u10 u11 u12 u13 u14 u15 u16 u17 u18 u19 u20 u21 u22 u23 u24 u25 u26 u27 u28 u29 u30 u31 u32 u33 u34 u35 u36 u37 u38 u39 u40 u41 u42 u43 u44 u45 u46 u47 u48 u49 u50 u51 u52 u53 u54 u55 u56 u57 u58 u59 u60 u61 u62 u63 u64 u65 u66 u67 u68 u69 u70 u71 u72 u73 u74 u75 u76 u77 u78 u79 u80 u81 u82 u83 u84 u85 u86 u87 u88 u89 u90 u91 u92 u93 u94 u95 u96 u97 u98 u99 u100 u101 u102 u103 u104 u105 u106 u107 u108 u109 u110 u111 u112 u113 u114 u115 u116 u117 u118 u119 u120 u121 u122 u123 u124 u125 u126 u127 u128 u129 u130 u131 u132 u133 u134 u135 u136 u137 u138 u139 u140 u141 u142 u143 u144 u145 u146 u147 u148 u149 u150 u151 u152 u153 u154 u155 u156 u157 u158 u159 u160 u161 u162 u163 u164 u165 u166 u167 u168 u169 u170 u171 u172 u173 u174 u175 u176 u177 u178 u179 u180 u181 u182 u183 u184 u185 u186 u187 u188 u189 u190 u191 u192 u193 u194 u195 u196 u197 u198 u199 u200 : Value} (w0 wa : World) (hb : Below w0.heap.size w0 wa) (x l3 : Nat) (live probes pmax agreed : Int) (a8 : Option Addr) (l8 c8 : Nat) (lv : Int) (ds : ByteArray) (a3 : Option Addr) (c3 : Nat) (a9 : Option Addr) (c9 : Nat) (Z8 Z9 : Nat → Int) (hpw : wrap64 probes = probes) (hl8 : l8 ≤ 65536) (Z3 : Nat → Int) (hl3 : l3 ≤ 65536) (r3 : RowI wa a3 l3 Z3) (r8 : RowI wa a8 l8 Z8) (r9 : RowI wa a9 l8 Z9) : Code.wp Try.prog (TAIL Try.f3 5) (bodyPost Try.prog Try.f3 (Good w0)) ⟨#[.float .f64 x, .int .i64 lv, .string ds, .slice a3 l3 c3, .int .i64 live, .int .i64 agreed, .int .i64 probes, .int .i64 pmax, .slice a8 l8 c8, .slice a9 l8 c9, u10, u11, u12, u13, u14, u15, u16, u17, u18, u19, u20, u21, u22, u23, u24, u25, u26, u27, u28, u29, u30, u31, u32, u33, u34, u35, u36, u37, u38, u39, u40, u41, u42, u43, u44, u45, u46, u47, u48, u49, u50, u51, u52, u53, u54, u55, u56, u57, u58, u59, u60, u61, u62, u63, u64, u65, u66, u67, u68, u69, u70, u71, u72, u73, u74, u75, u76, u77, u78, u79, u80, u81, u82, u83, u84, u85, u86, u87, u88, u89, u90, u91, u92, u93, u94, u95, u96, u97, u98, u99, u100, u101, u102, u103, u104, u105, u106, u107, u108, u109, u110, u111, u112, u113, u114, u115, u116, u117, u118, u119, u120, u121, u122, u123, u124, u125, u126, u127, u128, u129, u130, u131, u132, u133, u134, u135, u136, u137, u138, u139, u140, u141, u142, u143, u144, u145, u146, u147, u148, u149, u150, u151, u152, u153, u154, u155, u156, u157, u158, u159, u160, u161, u162, u163, u164, u165, u166, u167, u168, u169, u170, u171, u172, u173, u174, u175, u176, u177, u178, u179, u180, u181, u182, u183, u184, u185, u186, u187, u188, u189, u190, u191, u192, u193, u194, u195, u196, u197, u198, u199, u200], []⟩ wa := by
  have HB := hid hb
  have R3 := hid r3
  have R8 := hid r8
  have R9 := hid r9
  have HW := hid hpw
  clear hb r3 r8 r9 hpw
  rw [show TAIL Try.f3 5 = .seq (headS (TAIL Try.f3 5)) (TAIL Try.f3 6) from rfl]
  conv => arg 2; arg 1; whnf
  by_cases e1 : lv < 1
  · go_wp2_with fail
    all_goals (go_ret; exact ⟨rfl, HB.out⟩)
  go_wp2_with fail
  refine (known_any ds _).mono ?_
  rintro e w1 ⟨⟨bb, rfl⟩, rfl⟩
  cases bb
  · go_wp2_with fail
    all_goals (go_ret; exact ⟨rfl, HB.out⟩)
  · go_wp2_with fail
    exact t6 w0 _ HB.out x l3 live probes pmax agreed a8 l8 c8 lv ds a3 c3 a9 c9 Z8 Z9 HW.out hl8 Z3 hl3 R3.out R8.out R9.out


set_option maxRecDepth 1000000 in
set_option maxHeartbeats 4000000 in
theorem t4 {u10 u11 u12 u13 u14 u15 u16 u17 u18 u19 u20 u21 u22 u23 u24 u25 u26 u27 u28 u29 u30 u31 u32 u33 u34 u35 u36 u37 u38 u39 u40 u41 u42 u43 u44 u45 u46 u47 u48 u49 u50 u51 u52 u53 u54 u55 u56 u57 u58 u59 u60 u61 u62 u63 u64 u65 u66 u67 u68 u69 u70 u71 u72 u73 u74 u75 u76 u77 u78 u79 u80 u81 u82 u83 u84 u85 u86 u87 u88 u89 u90 u91 u92 u93 u94 u95 u96 u97 u98 u99 u100 u101 u102 u103 u104 u105 u106 u107 u108 u109 u110 u111 u112 u113 u114 u115 u116 u117 u118 u119 u120 u121 u122 u123 u124 u125 u126 u127 u128 u129 u130 u131 u132 u133 u134 u135 u136 u137 u138 u139 u140 u141 u142 u143 u144 u145 u146 u147 u148 u149 u150 u151 u152 u153 u154 u155 u156 u157 u158 u159 u160 u161 u162 u163 u164 u165 u166 u167 u168 u169 u170 u171 u172 u173 u174 u175 u176 u177 u178 u179 u180 u181 u182 u183 u184 u185 u186 u187 u188 u189 u190 u191 u192 u193 u194 u195 u196 u197 u198 u199 u200 : Value} (w0 wa : World) (hb : Below w0.heap.size w0 wa) (x l3 : Nat) (live probes pmax agreed : Int) (a8 : Option Addr) (l8 c8 : Nat) (lv : Int) (ds : ByteArray) (a3 : Option Addr) (c3 : Nat) (a9 : Option Addr) (l9 c9 : Nat) (Z8 Z9 : Nat → Int) (hpw : wrap64 probes = probes) (hl8 : l8 ≤ 65536) (Z3 : Nat → Int) (hl3 : l3 ≤ 65536) (r3 : RowI wa a3 l3 Z3) (r8 : RowI wa a8 l8 Z8) (r9 : RowI wa a9 l9 Z9) : Code.wp Try.prog (TAIL Try.f3 4) (bodyPost Try.prog Try.f3 (Good w0)) ⟨#[.float .f64 x, .int .i64 lv, .string ds, .slice a3 l3 c3, .int .i64 live, .int .i64 agreed, .int .i64 probes, .int .i64 pmax, .slice a8 l8 c8, .slice a9 l9 c9, u10, u11, u12, u13, u14, u15, u16, u17, u18, u19, u20, u21, u22, u23, u24, u25, u26, u27, u28, u29, u30, u31, u32, u33, u34, u35, u36, u37, u38, u39, u40, u41, u42, u43, u44, u45, u46, u47, u48, u49, u50, u51, u52, u53, u54, u55, u56, u57, u58, u59, u60, u61, u62, u63, u64, u65, u66, u67, u68, u69, u70, u71, u72, u73, u74, u75, u76, u77, u78, u79, u80, u81, u82, u83, u84, u85, u86, u87, u88, u89, u90, u91, u92, u93, u94, u95, u96, u97, u98, u99, u100, u101, u102, u103, u104, u105, u106, u107, u108, u109, u110, u111, u112, u113, u114, u115, u116, u117, u118, u119, u120, u121, u122, u123, u124, u125, u126, u127, u128, u129, u130, u131, u132, u133, u134, u135, u136, u137, u138, u139, u140, u141, u142, u143, u144, u145, u146, u147, u148, u149, u150, u151, u152, u153, u154, u155, u156, u157, u158, u159, u160, u161, u162, u163, u164, u165, u166, u167, u168, u169, u170, u171, u172, u173, u174, u175, u176, u177, u178, u179, u180, u181, u182, u183, u184, u185, u186, u187, u188, u189, u190, u191, u192, u193, u194, u195, u196, u197, u198, u199, u200], []⟩ wa := by
  have HB := hid hb
  have R3 := hid r3
  have R8 := hid r8
  have R9 := hid r9
  have HW := hid hpw
  clear hb r3 r8 r9 hpw
  rw [show TAIL Try.f3 4 = .seq (headS (TAIL Try.f3 4)) (TAIL Try.f3 5) from rfl]
  conv => arg 2; arg 1; whnf
  by_cases e1 : l9 = l8
  · subst e1
    go_wp2_with fail
    exact t5 w0 _ HB.out x l3 live probes pmax agreed a8 l9 c8 lv ds a3 c3 a9 c9 Z8 Z9 HW.out hl8 Z3 hl3 R3.out R8.out R9.out
  · have e2 : ((l8 : Int) != (l9 : Int)) = true := by rw [bne_iff_ne]; omega
    go_wp2_with fail
    all_goals (go_ret; exact ⟨rfl, HB.out⟩)


set_option maxRecDepth 1000000 in
set_option maxHeartbeats 4000000 in
theorem t3 {u10 u11 u12 u13 u14 u15 u16 u17 u18 u19 u20 u21 u22 u23 u24 u25 u26 u27 u28 u29 u30 u31 u32 u33 u34 u35 u36 u37 u38 u39 u40 u41 u42 u43 u44 u45 u46 u47 u48 u49 u50 u51 u52 u53 u54 u55 u56 u57 u58 u59 u60 u61 u62 u63 u64 u65 u66 u67 u68 u69 u70 u71 u72 u73 u74 u75 u76 u77 u78 u79 u80 u81 u82 u83 u84 u85 u86 u87 u88 u89 u90 u91 u92 u93 u94 u95 u96 u97 u98 u99 u100 u101 u102 u103 u104 u105 u106 u107 u108 u109 u110 u111 u112 u113 u114 u115 u116 u117 u118 u119 u120 u121 u122 u123 u124 u125 u126 u127 u128 u129 u130 u131 u132 u133 u134 u135 u136 u137 u138 u139 u140 u141 u142 u143 u144 u145 u146 u147 u148 u149 u150 u151 u152 u153 u154 u155 u156 u157 u158 u159 u160 u161 u162 u163 u164 u165 u166 u167 u168 u169 u170 u171 u172 u173 u174 u175 u176 u177 u178 u179 u180 u181 u182 u183 u184 u185 u186 u187 u188 u189 u190 u191 u192 u193 u194 u195 u196 u197 u198 u199 u200 : Value} (w0 wa : World) (hb : Below w0.heap.size w0 wa) (x l3 : Nat) (live probes pmax agreed : Int) (a8 : Option Addr) (l8 c8 : Nat) (lv : Int) (ds : ByteArray) (a3 : Option Addr) (c3 : Nat) (a9 : Option Addr) (l9 c9 : Nat) (Z8 Z9 : Nat → Int) (hpw : wrap64 probes = probes) (hl8 : l8 ≤ 65536) (Z3 : Nat → Int) (hl3 : l3 ≤ 65536) (hl9 : l9 ≤ 65536) (hds : ds.size ≤ 65536) (r3 : RowI wa a3 l3 Z3) (r8 : RowI wa a8 l8 Z8) (r9 : RowI wa a9 l9 Z9) : Code.wp Try.prog (TAIL Try.f3 3) (bodyPost Try.prog Try.f3 (Good w0)) ⟨#[.float .f64 x, .int .i64 lv, .string ds, .slice a3 l3 c3, .int .i64 live, .int .i64 agreed, .int .i64 probes, .int .i64 pmax, .slice a8 l8 c8, .slice a9 l9 c9, u10, u11, u12, u13, u14, u15, u16, u17, u18, u19, u20, u21, u22, u23, u24, u25, u26, u27, u28, u29, u30, u31, u32, u33, u34, u35, u36, u37, u38, u39, u40, u41, u42, u43, u44, u45, u46, u47, u48, u49, u50, u51, u52, u53, u54, u55, u56, u57, u58, u59, u60, u61, u62, u63, u64, u65, u66, u67, u68, u69, u70, u71, u72, u73, u74, u75, u76, u77, u78, u79, u80, u81, u82, u83, u84, u85, u86, u87, u88, u89, u90, u91, u92, u93, u94, u95, u96, u97, u98, u99, u100, u101, u102, u103, u104, u105, u106, u107, u108, u109, u110, u111, u112, u113, u114, u115, u116, u117, u118, u119, u120, u121, u122, u123, u124, u125, u126, u127, u128, u129, u130, u131, u132, u133, u134, u135, u136, u137, u138, u139, u140, u141, u142, u143, u144, u145, u146, u147, u148, u149, u150, u151, u152, u153, u154, u155, u156, u157, u158, u159, u160, u161, u162, u163, u164, u165, u166, u167, u168, u169, u170, u171, u172, u173, u174, u175, u176, u177, u178, u179, u180, u181, u182, u183, u184, u185, u186, u187, u188, u189, u190, u191, u192, u193, u194, u195, u196, u197, u198, u199, u200], []⟩ wa := by
  have HB := hid hb
  have R3 := hid r3
  have R8 := hid r8
  have R9 := hid r9
  have HW := hid hpw
  clear hb r3 r8 r9 hpw
  rw [show TAIL Try.f3 3 = .seq (headS (TAIL Try.f3 3)) (TAIL Try.f3 4) from rfl]
  conv => arg 2; arg 1; whnf
  go_wp2_with fail
  all_goals first
    | (go_ret; exact ⟨rfl, HB.out⟩)
    | exact t4 w0 _ HB.out x l3 live probes pmax agreed a8 l8 c8 lv ds a3 c3 a9 l9 c9 Z8 Z9 HW.out hl8 Z3 hl3 R3.out R8.out R9.out


set_option maxRecDepth 1000000 in
set_option maxHeartbeats 4000000 in
theorem t2 {u10 u11 u12 u13 u14 u15 u16 u17 u18 u19 u20 u21 u22 u23 u24 u25 u26 u27 u28 u29 u30 u31 u32 u33 u34 u35 u36 u37 u38 u39 u40 u41 u42 u43 u44 u45 u46 u47 u48 u49 u50 u51 u52 u53 u54 u55 u56 u57 u58 u59 u60 u61 u62 u63 u64 u65 u66 u67 u68 u69 u70 u71 u72 u73 u74 u75 u76 u77 u78 u79 u80 u81 u82 u83 u84 u85 u86 u87 u88 u89 u90 u91 u92 u93 u94 u95 u96 u97 u98 u99 u100 u101 u102 u103 u104 u105 u106 u107 u108 u109 u110 u111 u112 u113 u114 u115 u116 u117 u118 u119 u120 u121 u122 u123 u124 u125 u126 u127 u128 u129 u130 u131 u132 u133 u134 u135 u136 u137 u138 u139 u140 u141 u142 u143 u144 u145 u146 u147 u148 u149 u150 u151 u152 u153 u154 u155 u156 u157 u158 u159 u160 u161 u162 u163 u164 u165 u166 u167 u168 u169 u170 u171 u172 u173 u174 u175 u176 u177 u178 u179 u180 u181 u182 u183 u184 u185 u186 u187 u188 u189 u190 u191 u192 u193 u194 u195 u196 u197 u198 u199 u200 : Value} (w0 wa : World) (hb : Below w0.heap.size w0 wa) (x l3 : Nat) (live probes pmax agreed : Int) (a8 : Option Addr) (l8 c8 : Nat) (lv : Int) (ds : ByteArray) (a3 : Option Addr) (c3 : Nat) (a9 : Option Addr) (l9 c9 : Nat) (Z8 Z9 : Nat → Int) (hpw : wrap64 probes = probes) (m8 : l8 ≤ maxLen) (Z3 : Nat → Int) (m3 : l3 ≤ maxLen) (m9 : l9 ≤ maxLen) (md : ds.size ≤ maxLen) (r3 : RowI wa a3 l3 Z3) (r8 : RowI wa a8 l8 Z8) (r9 : RowI wa a9 l9 Z9) : Code.wp Try.prog (TAIL Try.f3 2) (bodyPost Try.prog Try.f3 (Good w0)) ⟨#[.float .f64 x, .int .i64 lv, .string ds, .slice a3 l3 c3, .int .i64 live, .int .i64 agreed, .int .i64 probes, .int .i64 pmax, .slice a8 l8 c8, .slice a9 l9 c9, u10, u11, u12, u13, u14, u15, u16, u17, u18, u19, u20, u21, u22, u23, u24, u25, u26, u27, u28, u29, u30, u31, u32, u33, u34, u35, u36, u37, u38, u39, u40, u41, u42, u43, u44, u45, u46, u47, u48, u49, u50, u51, u52, u53, u54, u55, u56, u57, u58, u59, u60, u61, u62, u63, u64, u65, u66, u67, u68, u69, u70, u71, u72, u73, u74, u75, u76, u77, u78, u79, u80, u81, u82, u83, u84, u85, u86, u87, u88, u89, u90, u91, u92, u93, u94, u95, u96, u97, u98, u99, u100, u101, u102, u103, u104, u105, u106, u107, u108, u109, u110, u111, u112, u113, u114, u115, u116, u117, u118, u119, u120, u121, u122, u123, u124, u125, u126, u127, u128, u129, u130, u131, u132, u133, u134, u135, u136, u137, u138, u139, u140, u141, u142, u143, u144, u145, u146, u147, u148, u149, u150, u151, u152, u153, u154, u155, u156, u157, u158, u159, u160, u161, u162, u163, u164, u165, u166, u167, u168, u169, u170, u171, u172, u173, u174, u175, u176, u177, u178, u179, u180, u181, u182, u183, u184, u185, u186, u187, u188, u189, u190, u191, u192, u193, u194, u195, u196, u197, u198, u199, u200], []⟩ wa := by
  unfold maxLen at m8 m3 m9 md
  have HB := hid hb
  have R3 := hid r3
  have R8 := hid r8
  have R9 := hid r9
  have HW := hid hpw
  clear hb r3 r8 r9 hpw
  rw [show TAIL Try.f3 2 = .seq (headS (TAIL Try.f3 2)) (TAIL Try.f3 3) from rfl]
  conv => arg 2; arg 1; whnf
  by_cases e1 : 65536 < ds.size
  · go_wp2_with fail
    all_goals (go_ret; exact ⟨rfl, HB.out⟩)
  by_cases e2 : 65536 < l3
  · go_wp2_with fail
    all_goals (go_ret; exact ⟨rfl, HB.out⟩)
  by_cases e3 : 65536 < l8
  · go_wp2_with fail
    all_goals (go_ret; exact ⟨rfl, HB.out⟩)
  by_cases e4 : 65536 < l9
  · go_wp2_with fail
    all_goals (go_ret; exact ⟨rfl, HB.out⟩)
  go_wp2_with fail
  all_goals first
    | (go_ret; exact ⟨rfl, HB.out⟩)
    | exact t3 w0 _ HB.out x l3 live probes pmax agreed a8 l8 c8 lv ds a3 c3 a9 l9 c9 Z8 Z9 HW.out (by omega) Z3 (by omega) (by omega) (by omega) R3.out R8.out R9.out


set_option maxRecDepth 1000000 in
set_option maxHeartbeats 4000000 in
theorem t1 {u10 u11 u12 u13 u14 u15 u16 u17 u18 u19 u20 u21 u22 u23 u24 u25 u26 u27 u28 u29 u30 u31 u32 u33 u34 u35 u36 u37 u38 u39 u40 u41 u42 u43 u44 u45 u46 u47 u48 u49 u50 u51 u52 u53 u54 u55 u56 u57 u58 u59 u60 u61 u62 u63 u64 u65 u66 u67 u68 u69 u70 u71 u72 u73 u74 u75 u76 u77 u78 u79 u80 u81 u82 u83 u84 u85 u86 u87 u88 u89 u90 u91 u92 u93 u94 u95 u96 u97 u98 u99 u100 u101 u102 u103 u104 u105 u106 u107 u108 u109 u110 u111 u112 u113 u114 u115 u116 u117 u118 u119 u120 u121 u122 u123 u124 u125 u126 u127 u128 u129 u130 u131 u132 u133 u134 u135 u136 u137 u138 u139 u140 u141 u142 u143 u144 u145 u146 u147 u148 u149 u150 u151 u152 u153 u154 u155 u156 u157 u158 u159 u160 u161 u162 u163 u164 u165 u166 u167 u168 u169 u170 u171 u172 u173 u174 u175 u176 u177 u178 u179 u180 u181 u182 u183 u184 u185 u186 u187 u188 u189 u190 u191 u192 u193 u194 u195 u196 u197 u198 u199 u200 : Value} (w0 wa : World) (hb : Below w0.heap.size w0 wa) (x l3 : Nat) (live probes pmax agreed : Int) (a8 : Option Addr) (l8 c8 : Nat) (lv : Int) (ds : ByteArray) (a3 : Option Addr) (c3 : Nat) (a9 : Option Addr) (l9 c9 : Nat) (Z8 Z9 : Nat → Int) (hpw : wrap64 probes = probes) (m8 : l8 ≤ maxLen) (Z3 : Nat → Int) (m3 : l3 ≤ maxLen) (m9 : l9 ≤ maxLen) (md : ds.size ≤ maxLen) (r3 : RowI wa a3 l3 Z3) (r8 : RowI wa a8 l8 Z8) (r9 : RowI wa a9 l9 Z9) : Code.wp Try.prog (TAIL Try.f3 1) (bodyPost Try.prog Try.f3 (Good w0)) ⟨#[.float .f64 x, .int .i64 lv, .string ds, .slice a3 l3 c3, .int .i64 live, .int .i64 agreed, .int .i64 probes, .int .i64 pmax, .slice a8 l8 c8, .slice a9 l9 c9, u10, u11, u12, u13, u14, u15, u16, u17, u18, u19, u20, u21, u22, u23, u24, u25, u26, u27, u28, u29, u30, u31, u32, u33, u34, u35, u36, u37, u38, u39, u40, u41, u42, u43, u44, u45, u46, u47, u48, u49, u50, u51, u52, u53, u54, u55, u56, u57, u58, u59, u60, u61, u62, u63, u64, u65, u66, u67, u68, u69, u70, u71, u72, u73, u74, u75, u76, u77, u78, u79, u80, u81, u82, u83, u84, u85, u86, u87, u88, u89, u90, u91, u92, u93, u94, u95, u96, u97, u98, u99, u100, u101, u102, u103, u104, u105, u106, u107, u108, u109, u110, u111, u112, u113, u114, u115, u116, u117, u118, u119, u120, u121, u122, u123, u124, u125, u126, u127, u128, u129, u130, u131, u132, u133, u134, u135, u136, u137, u138, u139, u140, u141, u142, u143, u144, u145, u146, u147, u148, u149, u150, u151, u152, u153, u154, u155, u156, u157, u158, u159, u160, u161, u162, u163, u164, u165, u166, u167, u168, u169, u170, u171, u172, u173, u174, u175, u176, u177, u178, u179, u180, u181, u182, u183, u184, u185, u186, u187, u188, u189, u190, u191, u192, u193, u194, u195, u196, u197, u198, u199, u200], []⟩ wa := by
  have HB := hid hb
  have R3 := hid r3
  have R8 := hid r8
  have R9 := hid r9
  have HW := hid hpw
  clear hb r3 r8 r9 hpw
  rw [show TAIL Try.f3 1 = .seq (headS (TAIL Try.f3 1)) (TAIL Try.f3 2) from rfl]
  conv => arg 2; arg 1; whnf
  by_cases e1 : ds.size + l3 + l8 + l9 ≤ 1048576
  · go_wp2_with fail
    refine (bytes_yes x lv live agreed probes pmax ds a3 a8 a9 l3 l8 l9 c3 c8 c9 _ e1).mono ?_
    rintro e w1 ⟨rfl, rfl⟩
    go_wp2_with fail
    exact t2 w0 _ HB.out x l3 live probes pmax agreed a8 l8 c8 lv ds a3 c3 a9 l9 c9 Z8 Z9 HW.out m8 Z3 m3 m9 md R3.out R8.out R9.out
  · go_wp2_with fail
    refine (bytes_no x lv live agreed probes pmax ds a3 a8 a9 l3 l8 l9 c3 c8 c9 _ (by omega) md m3 m8 m9).mono ?_
    rintro e w1 ⟨rfl, rfl⟩
    go_wp2_with fail
    all_goals (go_ret; exact ⟨rfl, HB.out⟩)


set_option maxRecDepth 1000000 in
set_option maxHeartbeats 4000000 in
theorem main_any (wa : World) (x : Nat) (lv live agreed probes pmax : Int) (ds : ByteArray) (a3 a8 a9 : Option Addr) (l3 l8 l9 c3 c8 c9 : Nat) (Z3 Z8 Z9 : Nat → Int) (hpw : wrap64 probes = probes)
    (m3 : l3 ≤ maxLen) (m8 : l8 ≤ maxLen) (m9 : l9 ≤ maxLen) (md : ds.size ≤ maxLen) (r3 : RowI wa a3 l3 Z3) (r8 : RowI wa a8 l8 Z8) (r9 : RowI wa a9 l9 Z9) :
    Calls Try.prog 3 #[.float .f64 x, .int .i64 lv, .string ds, .slice a3 l3 c3, .int .i64 live, .int .i64 agreed, .int .i64 probes, .int .i64 pmax, .slice a8 l8 c8, .slice a9 l9 c9] wa fun e w' => e = .returned (.bool true) ∧ Below wa.heap.size wa w' := by
  have X := hid (And.intro r3 (And.intro r8 (And.intro r9 hpw)))
  clear r3 r8 r9 hpw
  go_enter Try.func3, Try.ntmps3
  change Code.wp Try.prog (TAIL Try.f3 0) (bodyPost Try.prog Try.f3 (Good wa)) _ _
  rw [show TAIL Try.f3 0 = .seq (headS (TAIL Try.f3 0)) (TAIL Try.f3 1) from rfl]
  conv => arg 2; arg 1; whnf
  go_wp2_with fail
  obtain ⟨r3, r8, r9, hpw⟩ := X.out
  exact t1 wa _ (Below.refl _ _) x l3 live probes pmax agreed a8 l8 c8 lv ds a3 c3 a9 l9 c9 Z8 Z9 hpw m8 Z3 m3 m9 md r3 r8 r9


end Go.Proofs.Qxb6614982a
