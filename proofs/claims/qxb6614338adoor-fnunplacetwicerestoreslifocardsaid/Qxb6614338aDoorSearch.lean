import Derived.Test.Qxb6614338aDoorBase2
import Derived.Test.Qxb6614338aDoorBits
namespace Go.Proofs.Qxb6614338aDoor
open Go.RowKit

/-- An operation whose run is known. -/
theorem wpList_of_run {P : Program} {w w' : World} {ops : Array Oper} {rest : List Oper} {o : Oper} {a : Act} {Q : Exit → Act → World → Prop} (hgd : o.guard = none) (op : Op) (_ho : o.op = op) (v : Value)
    (hrun : (execOp a.eval o).run P w = .ok (.value v) w') (h : wpList P ops Q rest (a.put o.dst v) w') : wpList P ops Q (o :: rest) a w := by
  refine wpList_plain hgd fun K hK => ?_
  unfold Oper.wp
  rw [hrun]
  exact hK _ _ h

set_option maxRecDepth 100000 in
set_option maxHeartbeats 1000000 in
theorem new_any (n gn gp h gS gW gc gw gt m gb nb : Nat) (v : Int) (w : World) :
    Calls Tryd.prog 13 #[.int .i64 (n : Int), .slice (some ⟨gn, 0, none⟩) h h, .slice (some ⟨gp, 0, none⟩) h h, .slice (some ⟨gS, 0, none⟩) n n, .slice (some ⟨gW, 0, none⟩) n n, .slice (some ⟨gc, 0, none⟩) n n, .slice (some ⟨gw, 0, none⟩) m m, .slice (some ⟨gt, 0, none⟩) m m, .int .i64 v, .slice (some ⟨gb, 0, none⟩) nb nb] w fun e w' => e = .returned (.pointer (some ⟨w.heap.size, 0, none⟩)) ∧ w' = w.alloc (.cells #[.slice none 0 0, .int .i64 (n : Int), .slice (some ⟨gn, 0, none⟩) h h, .slice (some ⟨gp, 0, none⟩) h h, .slice none 0 0, .slice (some ⟨gS, 0, none⟩) n n, .slice (some ⟨gW, 0, none⟩) n n, .slice (some ⟨gc, 0, none⟩) n n, .slice (some ⟨gw, 0, none⟩) m m, .slice (some ⟨gt, 0, none⟩) m m, .slice none 0 0, .slice none 0 0, .slice none 0 0, .slice none 0 0, .slice none 0 0, .slice (some ⟨gb, 0, none⟩) nb nb, .int .i64 (n : Int), .int .i64 0, .int .i64 (-1), .slice none 0 0, .int .i64 0, .int .i64 0, .int .i64 0, .int .i64 v, .slice none 0 0, .int .i64 0, .int .i64 0, .int .i64 0, .slice none 0 0, .int .i64 0, .int .i64 0, .int .i64 0, .int .i64 0, .slice none 0 0, .slice none 0 0, .map none, .slice none 0 0, .int .i64 0, .int .i64 0, .int .i64 0, .int .i64 0, .int .i64 0, .slice none 0 0, .bool false, .bool false, .int .i32 0, .slice none 0 0, .slice none 0 0, .slice none 0 0] 63) := by
  go_enter Tryd.func13, Tryd.ntmps13
  go_wp2_with (refine wpList_of_run (w' := w) rfl (Op.build 63 #[(1, .tmp 21), (2, .tmp 22), (3, .tmp 23), (5, .tmp 24), (6, .tmp 25), (7, .tmp 26), (8, .tmp 27), (9, .tmp 28), (15, .tmp 29), (13, .tmp 32)]) rfl (.agg #[.slice none 0 0, .int .i64 (n : Int), .slice (some ⟨gn, 0, none⟩) h h, .slice (some ⟨gp, 0, none⟩) h h, .slice none 0 0, .slice (some ⟨gS, 0, none⟩) n n, .slice (some ⟨gW, 0, none⟩) n n, .slice (some ⟨gc, 0, none⟩) n n, .slice (some ⟨gw, 0, none⟩) m m, .slice (some ⟨gt, 0, none⟩) m m, .slice none 0 0, .slice none 0 0, .slice none 0 0, .slice none 0 0, .slice none 0 0, .slice (some ⟨gb, 0, none⟩) nb nb, .int .i64 (n : Int), .int .i64 0, .int .i64 (-1), .slice none 0 0, .int .i64 0, .int .i64 0, .int .i64 0, .int .i64 v, .slice none 0 0, .int .i64 0, .int .i64 0, .int .i64 0, .slice none 0 0, .int .i64 0, .int .i64 0, .int .i64 0, .int .i64 0, .slice none 0 0, .slice none 0 0, .map none, .slice none 0 0, .int .i64 0, .int .i64 0, .int .i64 0, .int .i64 0, .int .i64 0, .slice none 0 0, .bool false, .bool false, .int .i32 0, .slice none 0 0, .slice none 0 0, .slice none 0 0]) ?hk ?_)
  case hk => kernel_rfl
  go_ret
  exact ⟨rfl, rfl⟩

theorem tz_one (v : Int) (w : World) (e0 : (v == 0) = false) (hl : bits .and .u64 v (IntKind.u64.wrap (-v)) = 2) (hc : w.cell? ⟨0, 1, none⟩ = some (.int .u8 1)) :
    Calls Tryd.prog 42 #[.int .u64 v] w fun e w' => e = .returned (.int .i64 1) ∧ w' = w := by
  go_enter Tryd.func42, Tryd.ntmps42
  go_wp2_with fail
  go_ret
  exact ⟨rfl, rfl⟩
theorem tz_two (v : Int) (w : World) (e0 : (v == 0) = false) (hl : bits .and .u64 v (IntKind.u64.wrap (-v)) = 4) (hc : w.cell? ⟨0, 3, none⟩ = some (.int .u8 2)) :
    Calls Tryd.prog 42 #[.int .u64 v] w fun e w' => e = .returned (.int .i64 2) ∧ w' = w := by
  go_enter Tryd.func42, Tryd.ntmps42
  go_wp2_with fail
  go_ret
  exact ⟨rfl, rfl⟩

theorem next_one (x n b gb nb : Nat) (v : Int) (w : World) (hx : w.cell? ⟨b, 15, none⟩ = some (.slice (some ⟨gb, 0, none⟩) nb nb)) (hn : w.cell? ⟨b, 16, none⟩ = some (.int .i64 (n : Int))) (hnb : 1 ≤ nb) (hc : w.cell? ⟨gb, 0, none⟩ = some (.int .u64 (x : Int))) (hn2 : 2 ≤ n) (hn3 : n ≤ 1000000)
    (hv : bits .xor .u64 (if IntKind.u64.signed = true then -1 else IntKind.u64.max) (x : Int) = v) (e0 : (v == 0) = false) (hl : bits .and .u64 v (IntKind.u64.wrap (-v)) = 2) (ht : w.cell? ⟨0, 1, none⟩ = some (.int .u8 1)) :
    Calls Tryd.prog 41 #[.pointer (some ⟨b, 15, none⟩), .int .i64 0] w fun e w' => e = .returned (.int .i64 1) ∧ ∃ q, w' = w.drewN q := by
  have e1 : (v != 0) = true := by rw [bne, e0]; rfl
  have hcall := hid (fun wx (h : wx.cell? ⟨0, 1, none⟩ = some (.int .u8 1)) => tz_one v wx e0 hl h)
  clear hl e0
  go_enter Tryd.func41, Tryd.ntmps41
  go_wp2_with fail
  refine wp_loop_rounds 1 ?_
  rw [rounds_succ]
  go_wp2_with fail
  go_quiet ((go_at_call 42; exact Calls.quiet_of_same (hcall.out _ (by exact ht))))
  go_wp2_with fail
  go_ret
  exact ⟨rfl, nq, rfl⟩

theorem next_two (x n b gb nb : Nat) (v : Int) (w : World) (hx : w.cell? ⟨b, 15, none⟩ = some (.slice (some ⟨gb, 0, none⟩) nb nb)) (hn : w.cell? ⟨b, 16, none⟩ = some (.int .i64 (n : Int))) (hnb : 1 ≤ nb) (hc : w.cell? ⟨gb, 0, none⟩ = some (.int .u64 (x : Int))) (hn2 : 2 ≤ n) (hn3 : n ≤ 1000000)
    (hv : bits .xor .u64 (if IntKind.u64.signed = true then -1 else IntKind.u64.max) (x : Int) = v) (e0 : (v == 0) = false) (hl : bits .and .u64 v (IntKind.u64.wrap (-v)) = 4) (ht : w.cell? ⟨0, 3, none⟩ = some (.int .u8 2)) :
    Calls Tryd.prog 41 #[.pointer (some ⟨b, 15, none⟩), .int .i64 0] w fun e w' => e = .returned (.int .i64 2) ∧ ∃ q, w' = w.drewN q := by
  have e1 : (v != 0) = true := by rw [bne, e0]; rfl
  have hcall := hid (fun wx (h : wx.cell? ⟨0, 3, none⟩ = some (.int .u8 2)) => tz_two v wx e0 hl h)
  clear hl e0
  go_enter Tryd.func41, Tryd.ntmps41
  go_wp2_with fail
  refine wp_loop_rounds 1 ?_
  rw [rounds_succ]
  go_wp2_with fail
  go_quiet ((go_at_call 42; exact Calls.quiet_of_same (hcall.out _ (by exact ht))))
  go_wp2_with fail
  go_ret
  exact ⟨rfl, nq, rfl⟩

theorem next_from1 (x n b gb nb : Nat) (v u : Int) (w : World) (hx : w.cell? ⟨b, 15, none⟩ = some (.slice (some ⟨gb, 0, none⟩) nb nb)) (hn : w.cell? ⟨b, 16, none⟩ = some (.int .i64 (n : Int))) (hnb : 1 ≤ nb) (hc : w.cell? ⟨gb, 0, none⟩ = some (.int .u64 (x : Int))) (hn2 : 2 ≤ n) (hn3 : n ≤ 1000000)
    (hv : bits .xor .u64 (if IntKind.u64.signed = true then -1 else IntKind.u64.max) (x : Int) = v) (hu : v / 2 = u) (e0 : (u == 0) = false) (hl : bits .and .u64 u (IntKind.u64.wrap (-u)) = 2) (ht : w.cell? ⟨0, 1, none⟩ = some (.int .u8 1)) :
    Calls Tryd.prog 41 #[.pointer (some ⟨b, 15, none⟩), .int .i64 1] w fun e w' => e = .returned (.int .i64 2) ∧ ∃ q, w' = w.drewN q := by
  have e1 : (u != 0) = true := by rw [bne, e0]; rfl
  have hcall := hid (fun wx (h : wx.cell? ⟨0, 1, none⟩ = some (.int .u8 1)) => tz_one u wx e0 hl h)
  clear hl e0
  go_enter Tryd.func41, Tryd.ntmps41
  go_wp2_with fail
  refine wp_loop_rounds 1 ?_
  rw [rounds_succ]
  go_wp2_with fail
  go_quiet ((go_at_call 42; exact Calls.quiet_of_same (hcall.out _ (by exact ht))))
  go_wp2_with fail
  go_ret
  exact ⟨rfl, nq, rfl⟩

/-- What stays of a search while it runs: its sizes, its rows' blocks, the cells that nobody reads. -/
structure SC where
  n : Nat
  h : Nat
  m : Nat
  nb : Nat
  gn : Nat
  gp : Nat
  gS : Nat
  gW : Nat
  gc : Nat
  gw : Nat
  gt : Nat
  gb : Nat
  rest : Nat → Value
  w0 : World
  lim : Nat

def sl (g l : Nat) : Value := .slice (some ⟨g, 0, none⟩) l l

/-- The search's cells. -/
def sfn (C : SC) (first last value : Int) (st : Value) : Nat → Value
  | 1 => .int .i64 (C.n : Int)
  | 2 => .slice (some ⟨C.gn, 0, none⟩) C.h C.h
  | 3 => .slice (some ⟨C.gp, 0, none⟩) C.h C.h
  | 5 => .slice (some ⟨C.gS, 0, none⟩) C.n C.n
  | 6 => .slice (some ⟨C.gW, 0, none⟩) C.n C.n
  | 7 => .slice (some ⟨C.gc, 0, none⟩) C.n C.n
  | 8 => .slice (some ⟨C.gw, 0, none⟩) C.m C.m
  | 9 => .slice (some ⟨C.gt, 0, none⟩) C.m C.m
  | 15 => .slice (some ⟨C.gb, 0, none⟩) C.nb C.nb
  | 16 => .int .i64 (C.n : Int)
  | 17 => .int .i64 first
  | 18 => .int .i64 last
  | 23 => .int .i64 value
  | 33 => .slice none 0 0
  | 34 => st
  | j => C.rest j

/-- The set's words. -/
def RW (w : World) (b n : Nat) (B : Nat → Nat) : Prop := w.rowIs b 78 n (fun i => .int .u64 (B i : Int))

/-- The two cells of math/bits' table that the road reads. -/
def Tab (w : World) : Prop := w.cell? ⟨0, 1, none⟩ = some (.int .u8 1) ∧ w.cell? ⟨0, 3, none⟩ = some (.int .u8 2)

theorem Tab.set {w : World} (h : Tab w) {a : Addr} (ha : 0 < a.block) (v : Value) : Tab (w.setCell a v) :=
  ⟨by rw [World.cell?_setCell_other _ _ _ _ (fun e => by rw [e] at ha; exact absurd ha (by decide))]; exact h.1, by rw [World.cell?_setCell_other _ _ _ _ (fun e => by rw [e] at ha; exact absurd ha (by decide))]; exact h.2⟩

theorem Tab.later {w w' : World} (h : Tab w) (hb : Below w.heap.size w w') : Tab w' := ⟨cell_later hb h.1, cell_later hb h.2⟩

/-- The blocks of a search are different ones. -/
structure Dist (C : SC) (b : Nat) : Prop where
  b_gn : b ≠ C.gn
  b_gp : b ≠ C.gp
  b_gw : b ≠ C.gw
  b_gt : b ≠ C.gt
  b_gb : b ≠ C.gb
  b_gS : b ≠ C.gS
  b_gW : b ≠ C.gW
  b_gc : b ≠ C.gc
  gn_gp : C.gn ≠ C.gp
  gn_gw : C.gn ≠ C.gw
  gn_gt : C.gn ≠ C.gt
  gn_gb : C.gn ≠ C.gb
  gn_gS : C.gn ≠ C.gS
  gn_gW : C.gn ≠ C.gW
  gn_gc : C.gn ≠ C.gc
  gp_gw : C.gp ≠ C.gw
  gp_gt : C.gp ≠ C.gt
  gp_gb : C.gp ≠ C.gb
  gp_gS : C.gp ≠ C.gS
  gp_gW : C.gp ≠ C.gW
  gp_gc : C.gp ≠ C.gc
  gw_gt : C.gw ≠ C.gt
  gw_gb : C.gw ≠ C.gb
  gw_gS : C.gw ≠ C.gS
  gw_gW : C.gw ≠ C.gW
  gw_gc : C.gw ≠ C.gc
  gt_gb : C.gt ≠ C.gb
  gt_gS : C.gt ≠ C.gS
  gt_gW : C.gt ≠ C.gW
  gt_gc : C.gt ≠ C.gc
  gb_gS : C.gb ≠ C.gS
  gb_gW : C.gb ≠ C.gW
  gb_gc : C.gb ≠ C.gc

/-- Of the blocks below the limit only those that the search writes have turned. -/
structure KP (C : SC) (b : Nat) (w : World) : Prop where
  os : w.os = C.w0.os
  tape : w.tape = C.w0.tape
  output : w.output = C.w0.output
  size : C.w0.heap.size ≤ w.heap.size
  lim : C.lim ≤ C.w0.heap.size
  sz : b + 1 ≤ C.w0.heap.size
  block : ∀ k, k < C.lim → k ∉ [b, C.gn, C.gp, C.gw, C.gt, C.gb] → w.heap[k]? = C.w0.heap[k]?

theorem KP.set {C : SC} {b : Nat} {w : World} (h : KP C b w) {a : Addr} (ha : a.block ∈ [b, C.gn, C.gp, C.gw, C.gt, C.gb]) (v : Value) : KP C b (w.setCell a v) :=
  ⟨h.os, h.tape, h.output, by simpa [World.setCell] using h.size, h.lim, h.sz, fun k hk hn => (Below.heap_setCell _ _ _ _ fun e => hn (by rw [e]; exact ha)).trans (h.block k hk hn)⟩

theorem KP.grown {C : SC} {b : Nat} {w w' : World} {row : Option Nat} (h : KP C b w) (hg : w.grownBy w' row) (hr : ∀ q, row = some q → C.lim ≤ q) : KP C b w' :=
  ⟨hg.os.trans h.os, hg.tape.trans h.tape, hg.output.trans h.output, Nat.le_trans h.size hg.size, h.lim, h.sz, fun k hk hn => (hg.block k (by have := h.size; have := h.lim; omega) (fun e => by have := hr k e.symm; omega)).trans (h.block k hk hn)⟩

theorem grown_setCell (w : World) (a : Addr) (v : Value) : w.grownBy (w.setCell a v) (some a.block) :=
  ⟨rfl, rfl, rfl, by simp [World.setCell], fun k _ hn => Below.heap_setCell _ _ _ _ fun e => hn (by rw [e])⟩

theorem own_set {w : World} {b k : Nat} {st : Value} {xs : List Value} (h : w.ownsRow (b + 1) 67 5 st k xs) {a : Addr} (ha : a.block ≤ b) (v : Value) : (w.setCell a v).ownsRow (b + 1) 67 5 st k xs :=
  h.kept (grown_setCell w a v) (Or.inr fun e => by have := (h.lt _ e).1; omega)

theorem own_drewN {w : World} {b k : Nat} {st : Value} {xs : List Value} (h : w.ownsRow (b + 1) 67 5 st k xs) (q : Nat) : (w.drewN q).ownsRow (b + 1) 67 5 st k xs := h

structure St (C : SC) (b : Nat) (w : World) (N P : Nat → Nat) (S Wn wt tt : Nat → Int) (B : Nat → Nat) (first last value : Int) (st : Value) (k : Nat) (xs : List Value) : Prop where
  s : w.rowIs b 63 49 (sfn C first last value st)
  n : RI w C.gn C.h (fun i => (N i : Int))
  p : RI w C.gp C.h (fun i => (P i : Int))
  sets : RI w C.gS C.n S
  wants : RI w C.gW C.n Wn
  cues : RI w C.gc C.n (fun _ => -1)
  wt : RI w C.gw C.m wt
  tt : RI w C.gt C.m tt
  bits : RW w C.gb C.nb B
  dist : Dist C b
  tab : Tab w
  pos : 0 < b ∧ 0 < C.gn ∧ 0 < C.gp ∧ 0 < C.gw ∧ 0 < C.gt ∧ 0 < C.gb
  bl : ∀ k, B k < 18446744073709551616
  own : w.ownsRow (b + 1) 67 5 st k xs
  kp : KP C b w
  lt : C.gn ≤ b ∧ C.gp ≤ b ∧ C.gw ≤ b ∧ C.gt ≤ b ∧ C.gb ≤ b ∧ C.gS ≤ b ∧ C.gW ≤ b ∧ C.gc ≤ b

variable {C : SC} {b : Nat} {w : World} {N P : Nat → Nat} {S Wn wt tt : Nat → Int} {B : Nat → Nat} {first last value : Int} {st : Value} {k : Nat} {xs : List Value}

theorem St.drewN (h : St C b w N P S Wn wt tt B first last value st k xs) (q : Nat) : St C b (w.drewN q) N P S Wn wt tt B first last value st k xs :=
  ⟨h.s, h.n, h.p, h.sets, h.wants, h.cues, h.wt, h.tt, h.bits, h.dist, h.tab, h.pos, h.bl, own_drewN h.own q, ⟨h.kp.os, h.kp.tape, h.kp.output, h.kp.size, h.kp.lim, h.kp.sz, h.kp.block⟩, h.lt⟩

theorem St.later {w' : World} (h : St C b w N P S Wn wt tt B first last value st k xs) (hb : Below w.heap.size w w') : St C b w' N P S Wn wt tt B first last value st k xs :=
  have k := Kept.of_below hb
  ⟨k.row h.s (by simp), k.ri h.n (by simp), k.ri h.p (by simp), k.ri h.sets (by simp), k.ri h.wants (by simp), k.ri h.cues (by simp), k.ri h.wt (by simp), k.ri h.tt (by simp), k.row h.bits (by simp), h.dist, h.tab.later hb, h.pos, h.bl, h.own.kept (row := none) ⟨hb.os, hb.tape, hb.output, hb.size, fun i hi _ => hb.block i hi⟩ (by cases hv : st.ownBlock <;> simp), h.kp.grown (row := none) ⟨hb.os, hb.tape, hb.output, hb.size, fun i hi _ => hb.block i hi⟩ (fun q hq => by cases hq), h.lt⟩

theorem sfn_set17 {w : World} {b : Nat} (h : w.rowIs b 63 49 (sfn C first last value st)) (v : Int) : (w.setCell ⟨b, 17, none⟩ (.int .i64 v)).rowIs b 63 49 (sfn C v last value st) := by
  refine (h.set 17 _).congr fun j _ => ?_
  by_cases e : j = 17
  · subst e; rfl
  · simp only [e, if_false]
    unfold sfn
    split <;> first | rfl | exact absurd rfl e

theorem sfn_set18 {w : World} {b : Nat} (h : w.rowIs b 63 49 (sfn C first last value st)) (v : Int) : (w.setCell ⟨b, 18, none⟩ (.int .i64 v)).rowIs b 63 49 (sfn C first v value st) := by
  refine (h.set 18 _).congr fun j _ => ?_
  by_cases e : j = 18
  · subst e; rfl
  · simp only [e, if_false]
    unfold sfn
    split <;> first | rfl | exact absurd rfl e

theorem sfn_set23 {w : World} {b : Nat} (h : w.rowIs b 63 49 (sfn C first last value st)) (v : Int) : (w.setCell ⟨b, 23, none⟩ (.int .i64 v)).rowIs b 63 49 (sfn C first last v st) := by
  refine (h.set 23 _).congr fun j _ => ?_
  by_cases e : j = 23
  · subst e; rfl
  · simp only [e, if_false]
    unfold sfn
    split <;> first | rfl | exact absurd rfl e

theorem sfn_set34 {w : World} {b : Nat} (h : w.rowIs b 63 49 (sfn C first last value st)) (v : Value) : (w.setCell ⟨b, 34, none⟩ v).rowIs b 63 49 (sfn C first last value v) := by
  refine (h.set 34 _).congr fun j _ => ?_
  by_cases e : j = 34
  · subst e; rfl
  · simp only [e, if_false]
    unfold sfn
    split <;> first | rfl | exact absurd rfl e

theorem St.setFirst (h : St C b w N P S Wn wt tt B first last value st k xs) (v : Int) : St C b (w.setCell ⟨b, 17, none⟩ (.int .i64 v)) N P S Wn wt tt B v last value st k xs :=
  ⟨sfn_set17 h.s v, h.n.other h.dist.b_gn.symm _, h.p.other h.dist.b_gp.symm _, h.sets.other h.dist.b_gS.symm _, h.wants.other h.dist.b_gW.symm _, h.cues.other h.dist.b_gc.symm _, h.wt.other h.dist.b_gw.symm _, h.tt.other h.dist.b_gt.symm _, World.rowIs.setOther h.bits h.dist.b_gb.symm _, h.dist, h.tab.set h.pos.1 _, h.pos, h.bl, own_set h.own (Nat.le_refl _) _, h.kp.set (by simp) _, h.lt⟩

theorem St.setLast (h : St C b w N P S Wn wt tt B first last value st k xs) (v : Int) : St C b (w.setCell ⟨b, 18, none⟩ (.int .i64 v)) N P S Wn wt tt B first v value st k xs :=
  ⟨sfn_set18 h.s v, h.n.other h.dist.b_gn.symm _, h.p.other h.dist.b_gp.symm _, h.sets.other h.dist.b_gS.symm _, h.wants.other h.dist.b_gW.symm _, h.cues.other h.dist.b_gc.symm _, h.wt.other h.dist.b_gw.symm _, h.tt.other h.dist.b_gt.symm _, World.rowIs.setOther h.bits h.dist.b_gb.symm _, h.dist, h.tab.set h.pos.1 _, h.pos, h.bl, own_set h.own (Nat.le_refl _) _, h.kp.set (by simp) _, h.lt⟩

theorem St.setValue (h : St C b w N P S Wn wt tt B first last value st k xs) (v : Int) : St C b (w.setCell ⟨b, 23, none⟩ (.int .i64 v)) N P S Wn wt tt B first last v st k xs :=
  ⟨sfn_set23 h.s v, h.n.other h.dist.b_gn.symm _, h.p.other h.dist.b_gp.symm _, h.sets.other h.dist.b_gS.symm _, h.wants.other h.dist.b_gW.symm _, h.cues.other h.dist.b_gc.symm _, h.wt.other h.dist.b_gw.symm _, h.tt.other h.dist.b_gt.symm _, World.rowIs.setOther h.bits h.dist.b_gb.symm _, h.dist, h.tab.set h.pos.1 _, h.pos, h.bl, own_set h.own (Nat.le_refl _) _, h.kp.set (by simp) _, h.lt⟩

theorem St.setStack (h : St C b w N P S Wn wt tt B first last value st k xs) {v : Value} {k' : Nat} {xs' : List Value} (own : w.ownsRow (b + 1) 67 5 v k' xs') : St C b (w.setCell ⟨b, 34, none⟩ v) N P S Wn wt tt B first last value v k' xs' :=
  ⟨sfn_set34 h.s v, h.n.other h.dist.b_gn.symm _, h.p.other h.dist.b_gp.symm _, h.sets.other h.dist.b_gS.symm _, h.wants.other h.dist.b_gW.symm _, h.cues.other h.dist.b_gc.symm _, h.wt.other h.dist.b_gw.symm _, h.tt.other h.dist.b_gt.symm _, World.rowIs.setOther h.bits h.dist.b_gb.symm _, h.dist, h.tab.set h.pos.1 _, h.pos, h.bl, own_set own (Nat.le_refl _) _, h.kp.set (by simp) _, h.lt⟩

theorem row_g {w w' : World} {row : Option Nat} {g n : Nat} {t : TypeId} {f : Nat → Value} (r : w.rowIs g t n f) (hg : w.grownBy w' row) (hb : g ≤ b) (hr : ∀ q, row = some q → b < q) : w'.rowIs g t n f :=
  r.of_block (hg.block g r.lt fun e => by have := hr g e.symm; omega)

theorem tab_g {w w' : World} {row : Option Nat} (h : Tab w) (hg : w.grownBy w' row) (hr : ∀ q, row = some q → b < q) : Tab w' :=
  ⟨hg.cell h.1 (fun e => by have := hr 0 e.symm; omega), hg.cell h.2 (fun e => by have := hr 0 e.symm; omega)⟩

theorem St.grown {w' : World} {row : Option Nat} (h : St C b w N P S Wn wt tt B first last value st k xs) (hg : w.grownBy w' row) (hr : ∀ q, row = some q → b < q) (hr2 : ∀ q, row = some q → C.lim ≤ q) {k' : Nat} {xs' : List Value} (own : w'.ownsRow (b + 1) 67 5 st k' xs') : St C b w' N P S Wn wt tt B first last value st k' xs' :=
  ⟨row_g h.s hg (Nat.le_refl _) hr, row_g h.n hg h.lt.1 hr, row_g h.p hg h.lt.2.1 hr, row_g h.sets hg h.lt.2.2.2.2.2.1 hr, row_g h.wants hg h.lt.2.2.2.2.2.2.1 hr, row_g h.cues hg h.lt.2.2.2.2.2.2.2 hr, row_g h.wt hg h.lt.2.2.1 hr, row_g h.tt hg h.lt.2.2.2.1 hr, row_g h.bits hg h.lt.2.2.2.2.1 hr, h.dist, tab_g h.tab hg hr, h.pos, h.bl, own, h.kp.grown hg hr2, h.lt⟩

theorem St.alloc (h : St C b w N P S Wn wt tt B first last value st k xs) (o : Obj) : St C b (w.alloc o) N P S Wn wt tt B first last value st k xs :=
  h.grown (World.grownBy_alloc w o none) (fun q hq => by cases hq) (fun q hq => by cases hq) (h.own.alloc o)

theorem St.setNew (h : St C b w N P S Wn wt tt B first last value st k xs) {a : Addr} (ha : b < a.block) (ha2 : C.lim ≤ a.block) (hne : st.ownBlock ≠ some a.block) (v : Value) : St C b (w.setCell a v) N P S Wn wt tt B first last value st k xs :=
  h.grown (grown_setCell w a v) (fun q hq => by cases hq; exact ha) (fun q hq => by cases hq; exact ha2) (h.own.kept (grown_setCell w a v) (Or.inr hne))

theorem St.pushed {w' : World} (h : St C b w N P S Wn wt tt B first last value st k xs) (hl : C.lim ≤ b + 1) (hg : w.grownBy w' st.ownBlock) {v : Value} {k' : Nat} {xs' : List Value} (own : w'.ownsRow (b + 1) 67 5 v k' xs') : St C b (w'.setCell ⟨b, 34, none⟩ v) N P S Wn wt tt B first last value v k' xs' :=
  have hr : ∀ q, st.ownBlock = some q → b < q := fun q hq => (h.own.lt q hq).1
  ⟨sfn_set34 (row_g h.s hg (Nat.le_refl _) hr) v, RI.other (row_g h.n hg h.lt.1 hr) h.dist.b_gn.symm _, RI.other (row_g h.p hg h.lt.2.1 hr) h.dist.b_gp.symm _, RI.other (row_g h.sets hg h.lt.2.2.2.2.2.1 hr) h.dist.b_gS.symm _, RI.other (row_g h.wants hg h.lt.2.2.2.2.2.2.1 hr) h.dist.b_gW.symm _, RI.other (row_g h.cues hg h.lt.2.2.2.2.2.2.2 hr) h.dist.b_gc.symm _, RI.other (row_g h.wt hg h.lt.2.2.1 hr) h.dist.b_gw.symm _, RI.other (row_g h.tt hg h.lt.2.2.2.1 hr) h.dist.b_gt.symm _, World.rowIs.setOther (row_g h.bits hg h.lt.2.2.2.2.1 hr) h.dist.b_gb.symm _, h.dist, (tab_g h.tab hg hr).set h.pos.1 _, h.pos, h.bl, own_set own (Nat.le_refl _) _, (h.kp.grown hg fun q hq => Nat.le_trans hl (hr q hq)).set (by simp) _, h.lt⟩

theorem St.rebase (h : St C b w N P S Wn wt tt B first last value st k xs) (l : Nat) (hl : l ≤ w.heap.size) : St { C with w0 := w, lim := l } b w N P S Wn wt tt B first last value st k xs :=
  ⟨h.s, h.n, h.p, h.sets, h.wants, h.cues, h.wt, h.tt, h.bits, ⟨h.dist.b_gn, h.dist.b_gp, h.dist.b_gw, h.dist.b_gt, h.dist.b_gb, h.dist.b_gS, h.dist.b_gW, h.dist.b_gc, h.dist.gn_gp, h.dist.gn_gw, h.dist.gn_gt, h.dist.gn_gb, h.dist.gn_gS, h.dist.gn_gW, h.dist.gn_gc, h.dist.gp_gw, h.dist.gp_gt, h.dist.gp_gb, h.dist.gp_gS, h.dist.gp_gW, h.dist.gp_gc, h.dist.gw_gt, h.dist.gw_gb, h.dist.gw_gS, h.dist.gw_gW, h.dist.gw_gc, h.dist.gt_gb, h.dist.gt_gS, h.dist.gt_gW, h.dist.gt_gc, h.dist.gb_gS, h.dist.gb_gW, h.dist.gb_gc⟩, h.tab, h.pos, h.bl, h.own, ⟨rfl, rfl, rfl, Nat.le_refl _, hl, Nat.le_trans h.kp.sz h.kp.size, fun _ _ _ => rfl⟩, h.lt⟩

theorem St.back {w' : World} {l : Nat} (kp : KP C b w) (hl : C.lim ≤ l) (h : St { C with w0 := w, lim := l } b w' N P S Wn wt tt B first last value st k xs) : St C b w' N P S Wn wt tt B first last value st k xs :=
  ⟨h.s, h.n, h.p, h.sets, h.wants, h.cues, h.wt, h.tt, h.bits, ⟨h.dist.b_gn, h.dist.b_gp, h.dist.b_gw, h.dist.b_gt, h.dist.b_gb, h.dist.b_gS, h.dist.b_gW, h.dist.b_gc, h.dist.gn_gp, h.dist.gn_gw, h.dist.gn_gt, h.dist.gn_gb, h.dist.gn_gS, h.dist.gn_gW, h.dist.gn_gc, h.dist.gp_gw, h.dist.gp_gt, h.dist.gp_gb, h.dist.gp_gS, h.dist.gp_gW, h.dist.gp_gc, h.dist.gw_gt, h.dist.gw_gb, h.dist.gw_gS, h.dist.gw_gW, h.dist.gw_gc, h.dist.gt_gb, h.dist.gt_gS, h.dist.gt_gW, h.dist.gt_gc, h.dist.gb_gS, h.dist.gb_gW, h.dist.gb_gc⟩, h.tab, h.pos, h.bl, h.own, ⟨h.kp.os.trans kp.os, h.kp.tape.trans kp.tape, h.kp.output.trans kp.output, Nat.le_trans kp.size h.kp.size, kp.lim, kp.sz, fun i hi hn => (h.kp.block i (Nat.lt_of_lt_of_le hi hl) hn).trans (kp.block i hi hn)⟩, h.lt⟩

theorem St.setN (h : St C b w N P S Wn wt tt B first last value st k xs) (i v : Nat) : St C b (w.setCell ⟨C.gn, i, none⟩ (.int .i64 (v : Int))) (upd N i v) P S Wn wt tt B first last value st k xs :=
  ⟨World.rowIs.setOther h.s h.dist.b_gn _, (h.n.set i _).congr (fun j _ => by simp only [upd]; split <;> rfl), h.p.other h.dist.gn_gp.symm _, h.sets.other h.dist.gn_gS.symm _, h.wants.other h.dist.gn_gW.symm _, h.cues.other h.dist.gn_gc.symm _, h.wt.other h.dist.gn_gw.symm _, h.tt.other h.dist.gn_gt.symm _, World.rowIs.setOther h.bits h.dist.gn_gb.symm _, h.dist, h.tab.set h.pos.2.1 _, h.pos, h.bl, own_set h.own h.lt.1 _, h.kp.set (by simp) _, h.lt⟩

theorem St.setP (h : St C b w N P S Wn wt tt B first last value st k xs) (i v : Nat) : St C b (w.setCell ⟨C.gp, i, none⟩ (.int .i64 (v : Int))) N (upd P i v) S Wn wt tt B first last value st k xs :=
  ⟨World.rowIs.setOther h.s h.dist.b_gp _, h.n.other h.dist.gn_gp _, (h.p.set i _).congr (fun j _ => by simp only [upd]; split <;> rfl), h.sets.other h.dist.gp_gS.symm _, h.wants.other h.dist.gp_gW.symm _, h.cues.other h.dist.gp_gc.symm _, h.wt.other h.dist.gp_gw.symm _, h.tt.other h.dist.gp_gt.symm _, World.rowIs.setOther h.bits h.dist.gp_gb.symm _, h.dist, h.tab.set h.pos.2.2.1 _, h.pos, h.bl, own_set h.own h.lt.2.1 _, h.kp.set (by simp) _, h.lt⟩

theorem St.setWt (h : St C b w N P S Wn wt tt B first last value st k xs) (i : Nat) (v : Int) : St C b (w.setCell ⟨C.gw, i, none⟩ (.int .i64 v)) N P S Wn (upd wt i v) tt B first last value st k xs :=
  ⟨World.rowIs.setOther h.s h.dist.b_gw _, h.n.other h.dist.gn_gw _, h.p.other h.dist.gp_gw _, h.sets.other h.dist.gw_gS.symm _, h.wants.other h.dist.gw_gW.symm _, h.cues.other h.dist.gw_gc.symm _, h.wt.set i v, h.tt.other h.dist.gw_gt.symm _, World.rowIs.setOther h.bits h.dist.gw_gb.symm _, h.dist, h.tab.set h.pos.2.2.2.1 _, h.pos, h.bl, own_set h.own h.lt.2.2.1 _, h.kp.set (by simp) _, h.lt⟩

theorem St.setTt (h : St C b w N P S Wn wt tt B first last value st k xs) (i : Nat) (v : Int) : St C b (w.setCell ⟨C.gt, i, none⟩ (.int .i64 v)) N P S Wn wt (upd tt i v) B first last value st k xs :=
  ⟨World.rowIs.setOther h.s h.dist.b_gt _, h.n.other h.dist.gn_gt _, h.p.other h.dist.gp_gt _, h.sets.other h.dist.gt_gS.symm _, h.wants.other h.dist.gt_gW.symm _, h.cues.other h.dist.gt_gc.symm _, h.wt.other h.dist.gw_gt _, h.tt.set i v, World.rowIs.setOther h.bits h.dist.gt_gb.symm _, h.dist, h.tab.set h.pos.2.2.2.2.1 _, h.pos, h.bl, own_set h.own h.lt.2.2.2.1 _, h.kp.set (by simp) _, h.lt⟩

theorem St.setBits (h : St C b w N P S Wn wt tt B first last value st k xs) (i v : Nat) (hv : v < 18446744073709551616) : St C b (w.setCell ⟨C.gb, i, none⟩ (.int .u64 (v : Int))) N P S Wn wt tt (upd B i v) first last value st k xs :=
  ⟨World.rowIs.setOther h.s h.dist.b_gb _, h.n.other h.dist.gn_gb _, h.p.other h.dist.gp_gb _, h.sets.other h.dist.gb_gS.symm _, h.wants.other h.dist.gb_gW.symm _, h.cues.other h.dist.gb_gc.symm _, h.wt.other h.dist.gw_gb _, h.tt.other h.dist.gt_gb _, World.rowIs.congr (World.rowIs.set h.bits i _) (fun j _ => by simp only [upd]; split <;> rfl), h.dist, h.tab.set h.pos.2.2.2.2.2 _, h.pos, fun k => by simp only [upd]; split <;> first | exact hv | exact h.bl k, own_set h.own h.lt.2.2.2.2.1 _, h.kp.set (by simp) _, h.lt⟩

theorem value_any (h : St C b w N P S Wn wt tt B first last value st k xs) : Calls Tryd.prog 19 #[.pointer (some ⟨b, 0, none⟩)] w fun e w' => e = .returned (.int .i64 value) ∧ w' = w := by
  have x : w.cell? ⟨b, 23, none⟩ = some (.int .i64 value) := h.s.cell (by decide)
  clear h
  go_enter Tryd.func19, Tryd.ntmps19
  go_wp2_with fail
  go_ret
  exact ⟨rfl, rfl⟩

theorem stacklen_any {a : Option Addr} {k0 c : Nat} (h : St C b w N P S Wn wt tt B first last value (.slice a k0 c) k xs) : Calls Tryd.prog 20 #[.pointer (some ⟨b, 0, none⟩)] w fun e w' => e = .returned (.int .i64 (k0 : Int)) ∧ w' = w := by
  have x : w.cell? ⟨b, 34, none⟩ = some (.slice a k0 c) := h.s.cell (by decide)
  clear h
  go_enter Tryd.func20, Tryd.ntmps20
  go_wp2_with fail
  go_ret
  exact ⟨rfl, rfl⟩

theorem links_any (h : St C b w N P S Wn wt tt B first last value st k xs) : Calls Tryd.prog 21 #[.pointer (some ⟨b, 0, none⟩)] w fun e w' => e = .returned (.tuple #[.slice (some ⟨C.gn, 0, none⟩) C.h C.h, .slice (some ⟨C.gp, 0, none⟩) C.h C.h]) ∧ ∃ q, w' = w.drewN q := by
  have x : w.cell? ⟨b, 2, none⟩ = some (.slice (some ⟨C.gn, 0, none⟩) C.h C.h) := h.s.cell (by decide)
  have y : w.cell? ⟨b, 3, none⟩ = some (.slice (some ⟨C.gp, 0, none⟩) C.h C.h) := h.s.cell (by decide)
  clear h
  go_enter Tryd.func21, Tryd.ntmps21
  go_wp2_with fail
  go_quiet (fail)
  go_wp2_with fail
  go_ret2
  exact ⟨rfl, nq, rfl⟩

theorem counts_any (h : St C b w N P S Wn wt tt B first last value st k xs) : Calls Tryd.prog 23 #[.pointer (some ⟨b, 0, none⟩)] w fun e w' => e = .returned (.tuple #[.slice (some ⟨C.gw, 0, none⟩) C.m C.m, .slice (some ⟨C.gt, 0, none⟩) C.m C.m]) ∧ ∃ q, w' = w.drewN q := by
  have x : w.cell? ⟨b, 8, none⟩ = some (.slice (some ⟨C.gw, 0, none⟩) C.m C.m) := h.s.cell (by decide)
  have y : w.cell? ⟨b, 9, none⟩ = some (.slice (some ⟨C.gt, 0, none⟩) C.m C.m) := h.s.cell (by decide)
  clear h
  go_enter Tryd.func23, Tryd.ntmps23
  go_wp2_with fail
  go_quiet (fail)
  go_wp2_with fail
  go_ret2
  exact ⟨rfl, nq, rfl⟩

theorem ends_any (h : St C b w N P S Wn wt tt B first last value st k xs) : Calls Tryd.prog 24 #[.pointer (some ⟨b, 0, none⟩)] w fun e w' => e = .returned (.tuple #[.int .i64 first, .int .i64 last]) ∧ ∃ q, w' = w.drewN q := by
  have x : w.cell? ⟨b, 17, none⟩ = some (.int .i64 first) := h.s.cell (by decide)
  have y : w.cell? ⟨b, 18, none⟩ = some (.int .i64 last) := h.s.cell (by decide)
  clear h
  go_enter Tryd.func24, Tryd.ntmps24
  go_wp2_with fail
  go_quiet (fail)
  go_wp2_with fail
  go_ret2
  exact ⟨rfl, nq, rfl⟩

/-- has. -/
theorem has_any (i : Nat) (hi : i < 64 * C.nb) (hn : C.nb ≤ 100000) (h : St C b w N P S Wn wt tt B first last value st k xs) : Calls Tryd.prog 40 #[.pointer (some ⟨b, 15, none⟩), .int .i64 (i : Int)] w fun e w' => e = .returned (.bool ((B (i / 64)).testBit (i % 64))) ∧ ∃ q, w' = w.drewN q := by
  have x : w.cell? ⟨b, 15, none⟩ = some (.slice (some ⟨C.gb, 0, none⟩) C.nb C.nb) := h.s.cell (by decide)
  have y : w.cell? ⟨C.gb, i / 64, none⟩ = some (.int .u64 (B (i / 64) : Int)) := h.bits.cell (by omega)
  have hb2 := hid (has_bit (B (i / 64)) (i % 64) (h.bl _) (Nat.mod_lt _ (by decide)))
  clear h
  go_enter Tryd.func40, Tryd.ntmps40
  go_wp2_with fail
  go_quiet (fail)
  go_wp2_with fail
  go_ret
  exact ⟨by rw [← hb2.out]; rfl, nq, rfl⟩

end Go.Proofs.Qxb6614338aDoor
