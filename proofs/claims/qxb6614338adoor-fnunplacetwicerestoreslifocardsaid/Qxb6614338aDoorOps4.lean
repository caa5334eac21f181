import Derived.Test.Qxb6614338aDoorOps3
namespace Go.Proofs.Qxb6614338aDoor
open Go.RowKit
variable {C : SC} {b : Nat} {w : World} {N P : Nat → Nat} {S Wn wt tt : Nat → Int} {B : Nat → Nat} {first last value : Int} {st : Value} {k : Nat} {xs : List Value}

theorem own_pop {g cap : Nat} {ys : List Value} (h : w.ownsRow (b + 1) 67 5 (.slice (some ⟨g, 0, none⟩) (k + 1) cap) (k + 1) (xs ++ ys)) (hy : ys.length = 5) : w.ownsRow (b + 1) 67 5 (.slice (some ⟨g, 0, none⟩) k cap) k xs := by
  obtain ⟨hl, h2⟩ := h
  rw [List.length_append, hy] at hl
  refine ⟨by omega, ?_⟩
  rcases h2 with ⟨h0, _⟩ | ⟨g', cap', cur, h0, hb, hg, hle, hm, hs, ht⟩
  · cases h0
  · cases h0
    refine Or.inr ⟨g, cap, cur, rfl, hb, hg, by omega, hm, hs, ?_⟩
    have e : (cur.toList.take ((k + 1) * 5)).take (k * 5) = (xs ++ ys).take (k * 5) := by rw [ht]
    rw [List.take_take, Nat.min_eq_left (by omega)] at e
    rw [e]
    have e2 : k * 5 = xs.length := by omega
    rw [e2]
    exact List.take_left

theorem set5 {r : Nat} {a1 a2 a3 a4 a5 c1 c2 c3 c4 c5 : Value} (h : w.heap[r]? = some (.cells #[a1, a2, a3, a4, a5] 67 (0, 0))) :
    (((((w.setCell ⟨r, 0, none⟩ c1).setCell ⟨r, 1, none⟩ c2).setCell ⟨r, 2, none⟩ c3).setCell ⟨r, 3, none⟩ c4).setCell ⟨r, 4, none⟩ c5).heap[r]? = some (.cells #[c1, c2, c3, c4, c5] 67 (0, 0)) :=
  heap_setCell_same _ r 4 _ 67 _ (heap_setCell_same _ r 3 _ 67 _ (heap_setCell_same _ r 2 _ 67 _ (heap_setCell_same _ r 1 _ 67 _ (heap_setCell_same w r 0 _ 67 _ h))))

theorem Tryd.size67 : (Tryd.prog.info? 67).map (·.size) = some 5 := by kernel_rfl

theorem cells_of_block {r : Nat} {vs : List Value} (h : w.heap[r]? = some (.cells vs.toArray 67 (0, 0))) {j : Nat} {u : Value} (hu : vs[j]? = some u) : w.cell? ⟨r, j, none⟩ = some u ∧ w.frozen? ⟨r, j, none⟩ = false := by
  refine ⟨?_, ?_⟩
  · rw [cell_of_row w r j _ _ _ h]
    simpa using hu
  · simp [World.frozen?, h]


set_option maxHeartbeats 1000000 in
theorem unplace_one (i : Nat) (v f : Int) (p : Bool) (g cap : Nat) (N1 P1 N2 P2 : Nat → Nat) (l' : Int) (s' : Nat → Bool)
    (h : St C b w N P S Wn wt tt B first last value (.slice (some ⟨g, 0, none⟩) 1 cap) 1 (([] : List Value) ++ pl (i : Int) v f 0 p)) (hi : i < C.n) (hn : C.n ≤ 131072) (hv : -2147483648 ≤ v ∧ v ≤ 2147483647)
    (hnb : C.n ≤ 64 * C.nb) (hnb2 : C.nb ≤ 100000) (hm : C.m ≤ 1000000) (hh : C.h ≤ 1000000) (hih : 2 * i + 1 < C.h)
    (hN1 : upd N (P (2 * i + 1)) (2 * i + 1) = N1) (hP1 : upd P (N1 (2 * i + 1)) (2 * i + 1) = P1) (hN2 : upd N1 (P1 (2 * i)) (2 * i) = N2) (hP2 : upd P1 (N2 (2 * i)) (2 * i) = P2)
    (b1 : P (2 * i + 1) < C.h) (b2 : N1 (2 * i + 1) < C.h) (b3 : P1 (2 * i) < C.h) (b4 : N2 (2 * i) < C.h)
    (hW : Wn i < (C.m : Int)) (hS : S i < (C.m : Int)) (hw : ∀ j, -1000000 ≤ wt j ∧ wt j ≤ 1000000) (ht : ∀ j, -1000000 ≤ tt j ∧ tt j ≤ 1000000)
    (hs' : InS C.nb (remB B i) s') (h0 : -1 ≤ l') (h1 : l' ≤ last) (h2 : last < 64 * (C.nb : Int)) (hd : ∀ j : Nat, l' < (j : Int) → (j : Int) ≤ last → s' j = false) (he : ∀ j : Nat, l' = (j : Int) → s' j = true) :
    Calls Tryd.prog 32 #[.pointer (some ⟨b, 0, none⟩)] w fun r w' => r = .returned (.agg (pl (i : Int) v f 0 p).toArray) ∧ St C b w' N2 P2 S Wn (bump 1 (Wn i) wt) (bump 1 (S i) tt) (remB B i) (if (i : Int) < first then (i : Int) else first) l' v (.slice (some ⟨g, 0, none⟩) 0 cap) 0 ([] : List Value) := by
  have hcap : 1 ≤ cap := by
    rcases h.own.2 with ⟨h0, _⟩ | ⟨g', cap', cur, h0, _, _, h1, _⟩
    · cases h0
    · cases h0; exact h1
  have hgw := hid (h.own.lt g rfl)
  have hr1 := hid (show b < w.heap.size ∧ C.lim ≤ w.heap.size from ⟨by have := h.kp.size; have := h.kp.sz; omega, by have := h.kp.size; have := h.kp.lim; omega⟩)
  have HA := hid (h.alloc (.cells #[.int .i32 0, .int .i32 0, .int .i32 0, .int .i32 0, .bool false] 67))
  have hz := hid (show (w.alloc (.cells #[.int .i32 0, .int .i32 0, .int .i32 0, .int .i32 0, .bool false] 67)).heap.size = w.heap.size + 1 from by simp)
  have hblk := hid (heap_alloc_new w (.cells #[.int .i32 0, .int .i32 0, .int .i32 0, .int .i32 0, .bool false] 67))
  have X := hid (And.intro hN1 (And.intro hP1 (And.intro hN2 (And.intro hP2 (And.intro b1 (And.intro b2 (And.intro b3 b4)))))))
  have X2 := hid (And.intro hs' (And.intro h0 (And.intro h1 (And.intro h2 (And.intro hd he)))))
  have X3 := hid (And.intro hw (And.intro ht (And.intro hW hS)))
  clear h hN1 hP1 hN2 hP2 b1 b2 b3 b4 hs' h0 h1 h2 hd he hw ht hW hS
  generalize hff : (if (i : Int) < first then (i : Int) else first) = ff
  have HFF := hid hff
  clear hff
  go_enter Tryd.func32, Tryd.ntmps32
  go_wp2_with fail
  generalize hw1 : w.alloc (.cells #[.int .i32 0, .int .i32 0, .int .i32 0, .int .i32 0, .bool false] 67) = w1 at *
  clear hw1
  have x1 : w1.cell? ⟨b, 34, none⟩ = some (.slice (some ⟨g, 0, none⟩) 1 cap) := HA.out.s.cell (by decide)
  have c0 := HA.out.own.cells (g := g) rfl 0 _ rfl
  have c1 := HA.out.own.cells (g := g) rfl 1 _ rfl
  have c2 := HA.out.own.cells (g := g) rfl 2 _ rfl
  have c3 := HA.out.own.cells (g := g) rfl 3 _ rfl
  have c4 := HA.out.own.cells (g := g) rfl 4 _ rfl
  rw [Addr.add_lit] at c0 c1 c2 c3 c4
  have HB := hid (HA.out.alloc (.cells #[.int .i32 0, .int .i32 0, .int .i32 0, .int .i32 0, .bool false] 67))
  have x1' : (w1.alloc (.cells #[.int .i32 0, .int .i32 0, .int .i32 0, .int .i32 0, .bool false] 67)).cell? ⟨b, 34, none⟩ = some (.slice (some ⟨g, 0, none⟩) 1 cap) := HB.out.s.cell (by decide)
  have c0' := HB.out.own.cells (g := g) rfl 0 _ rfl
  have c1' := HB.out.own.cells (g := g) rfl 1 _ rfl
  have c2' := HB.out.own.cells (g := g) rfl 2 _ rfl
  have c3' := HB.out.own.cells (g := g) rfl 3 _ rfl
  have c4' := HB.out.own.cells (g := g) rfl 4 _ rfl
  rw [Addr.add_lit] at c0' c1' c2' c3' c4'
  go_region
  have h2 := hid (show St C b (w1.alloc (.cells #[.int .i32 (i : Int), .int .i32 v, .int .i32 f, .int .i32 0, .bool p] 67)).drew N P S Wn wt tt B first last value (.slice (some ⟨g, 0, none⟩) 1 cap) 1 (([] : List Value) ++ pl (i : Int) v f 0 p) from (HA.out.alloc (.cells #[.int .i32 (i : Int), .int .i32 v, .int .i32 f, .int .i32 0, .bool p] 67)).drewN 1)
  have hblk2 := hid (show (w1.alloc (.cells #[.int .i32 (i : Int), .int .i32 v, .int .i32 f, .int .i32 0, .bool p] 67)).drew.heap[w1.heap.size]? = some (.cells (pl (i : Int) v f 0 p).toArray 67 (0, 0)) from heap_alloc_new w1 (.cells #[.int .i32 (i : Int), .int .i32 v, .int .i32 f, .int .i32 0, .bool p] 67))
  have hblk1 := hid (show (w1.alloc (.cells #[.int .i32 (i : Int), .int .i32 v, .int .i32 f, .int .i32 0, .bool p] 67)).drew.heap[w.heap.size]? = some (.cells #[.int .i32 0, .int .i32 0, .int .i32 0, .int .i32 0, .bool false] 67) from (Below.heap_alloc w1 (.cells #[.int .i32 (i : Int), .int .i32 v, .int .i32 f, .int .i32 0, .bool p] 67) _ (by have := hz.out; omega)).trans hblk.out)
  have hsz2 := hid (show (w1.alloc (.cells #[.int .i32 (i : Int), .int .i32 v, .int .i32 f, .int .i32 0, .bool p] 67)).drew.heap.size = w.heap.size + 2 from by have := hz.out; show (w1.alloc (.cells #[.int .i32 (i : Int), .int .i32 v, .int .i32 f, .int .i32 0, .bool p] 67)).heap.size = _; simp; omega)
  have hz1 := hid (show w1.heap.size = w.heap.size + 1 from hz.out)
  clear x1 c0 c1 c2 c3 c4 x1' c0' c1' c2' c3' c4' HB HA hblk hz
  generalize (w1.alloc (.cells #[.int .i32 (i : Int), .int .i32 v, .int .i32 f, .int .i32 0, .bool p] 67)).drew = w2 at *
  generalize w1.heap.size = r2 at *
  clear w1
  have h2' := hid (h2.out.rebase w2.heap.size (Nat.le_refl _))
  have KP0 := hid h2.out.kp
  have x1 : w2.cell? ⟨b, 34, none⟩ = some (.slice (some ⟨g, 0, none⟩) 1 cap) := h2.out.s.cell (by decide)
  have x2 : w2.frozen? ⟨b, 34, none⟩ = false := h2.out.s.frozen _
  clear h2
  go_wp2_with fail
  go_region
  have h3 := hid (show St { C with w0 := w2, lim := w2.heap.size } b (w2.setCell ⟨b, 34, none⟩ (.slice (some ⟨g, 0, none⟩) 0 cap)).drew N P S Wn wt tt B first last value (.slice (some ⟨g, 0, none⟩) 0 cap) 0 ([] : List Value) from ((h2'.out.setStack (own_pop h2'.out.own rfl)).drewN 1))
  clear h2' x1 x2
  generalize (w2.setCell ⟨b, 34, none⟩ (.slice (some ⟨g, 0, none⟩) 0 cap)).drew = w3 at *
  have rn := hid (fun (wx : World) (hk : KP { C with w0 := w2, lim := w2.heap.size } b wx) => show wx.heap[r2]? = some (.cells (pl (i : Int) v f 0 p).toArray 67 (0, 0)) from (hk.block r2 (by show r2 < w2.heap.size; have := hz1.out; have := hsz2.out; omega) (by have := hz1.out; have := hr1.out; have := hk.sz; have l := h3.out.lt; simp only [List.mem_cons, List.not_mem_nil, or_false, not_or]; dsimp only at l; refine ⟨?_, ?_, ?_, ?_, ?_, ?_⟩ <;> omega)).trans hblk2.out)
  have rm := hid (fun (wx : World) (hk : KP { C with w0 := w2, lim := w2.heap.size } b wx) => show wx.heap[w.heap.size]? = some (.cells #[.int .i32 0, .int .i32 0, .int .i32 0, .int .i32 0, .bool false] 67) from (hk.block w.heap.size (by show w.heap.size < w2.heap.size; have := hsz2.out; omega) (by have := hr1.out; have l := h3.out.lt; simp only [List.mem_cons, List.not_mem_nil, or_false, not_or]; dsimp only at l; refine ⟨?_, ?_, ?_, ?_, ?_, ?_⟩ <;> omega)).trans hblk1.out)
  have q0 := (cells_of_block (rn.out w3 h3.out.kp) (j := 0) rfl).1
  have q1 : w3.cell? ⟨b, 1, none⟩ = some (.int .i64 (C.n : Int)) := h3.out.s.cell (by decide)
  go_wp2_with fail
  rw [show (2 * (i : Int) + 1) = ((2 * i + 1 : Nat) : Int) from by omega]
  refine (relink_any (C := { C with w0 := w2, lim := w2.heap.size }) (2 * i + 1) N1 P1 X.out.1 X.out.2.1 hih hh X.out.2.2.2.2.1 X.out.2.2.2.2.2.1 h3.out).mono ?_
  rintro e w4 ⟨rfl, h4⟩
  have h4 := hid h4
  clear q0 q1
  go_wp2_with fail
  rw [show (2 * (i : Int)) = ((2 * i : Nat) : Int) from by omega]
  refine (relink_any (C := { C with w0 := w2, lim := w2.heap.size }) (2 * i) N2 P2 X.out.2.2.1 X.out.2.2.2.1 (by show 2 * i < C.h; omega) hh X.out.2.2.2.2.2.2.1 X.out.2.2.2.2.2.2.2 h4.out).mono ?_
  rintro e w5 ⟨rfl, h5⟩
  have h5 := hid h5
  have q1 := (cells_of_block (rn.out w5 h5.out.kp) (j := 1) rfl).1
  have q3 := (cells_of_block (rn.out w5 h5.out.kp) (j := 3) rfl).1
  have q4 : w5.cell? ⟨b, 23, none⟩ = some (.int .i64 value) := h5.out.s.cell (by decide)
  have q5 : w5.frozen? ⟨b, 23, none⟩ = false := h5.out.s.frozen _
  obtain ⟨hv1, hv2⟩ := hv
  go_wp2_with fail
  refine undrop_any.mono ?_
  rintro e w5' ⟨rfl, rfl⟩
  go_wp2_with fail
  refine (count_any (C := { C with w0 := w2, lim := w2.heap.size }) i 1 hi (by show C.n ≤ 1000000; omega) hm (by omega) X3.out.2.2.1 X3.out.2.2.2 X3.out.1 X3.out.2.1 (h5.out.setValue v)).mono ?_
  rintro e w6 ⟨rfl, h6⟩
  have h6 := hid h6
  clear q1 q3 q4 q5
  go_wp2_with fail
  refine (mark_false (C := { C with w0 := w2, lim := w2.heap.size }) i hi (by show C.n ≤ 1000000; omega) h6.out (remove_any (C := { C with w0 := w2, lim := w2.heap.size }) i l' s' (by show i < 64 * C.nb; omega) hnb2 h6.out X2.out.1 X2.out.2.1 X2.out.2.2.1 X2.out.2.2.2.1 X2.out.2.2.2.2.1 X2.out.2.2.2.2.2)).mono ?_
  rintro e w7 ⟨rfl, h7⟩
  rw [HFF.out] at h7
  have h7 := hid h7
  have u0 := (cells_of_block (rn.out w7 h7.out.kp) (j := 0) rfl).1
  have u1 := (cells_of_block (rn.out w7 h7.out.kp) (j := 1) rfl).1
  have u2 := (cells_of_block (rn.out w7 h7.out.kp) (j := 2) rfl).1
  have u3 := (cells_of_block (rn.out w7 h7.out.kp) (j := 3) rfl).1
  have u4 := (cells_of_block (rn.out w7 h7.out.kp) (j := 4) rfl).1
  have t0 := cells_of_block (vs := [.int .i32 0, .int .i32 0, .int .i32 0, .int .i32 0, .bool false]) (rm.out w7 h7.out.kp) (j := 0) rfl
  have t1 := cells_of_block (vs := [.int .i32 0, .int .i32 0, .int .i32 0, .int .i32 0, .bool false]) (rm.out w7 h7.out.kp) (j := 1) rfl
  have t2 := cells_of_block (vs := [.int .i32 0, .int .i32 0, .int .i32 0, .int .i32 0, .bool false]) (rm.out w7 h7.out.kp) (j := 2) rfl
  have t3 := cells_of_block (vs := [.int .i32 0, .int .i32 0, .int .i32 0, .int .i32 0, .bool false]) (rm.out w7 h7.out.kp) (j := 3) rfl
  have t4 := cells_of_block (vs := [.int .i32 0, .int .i32 0, .int .i32 0, .int .i32 0, .bool false]) (rm.out w7 h7.out.kp) (j := 4) rfl
  obtain ⟨t0, t0'⟩ := t0
  obtain ⟨t1, t1'⟩ := t1
  obtain ⟨t2, t2'⟩ := t2
  obtain ⟨t3, t3'⟩ := t3
  obtain ⟨t4, t4'⟩ := t4
  have hne := hid (show r2 ≠ w.heap.size from by have := hz1.out; omega)
  go_wp2_with fail
  refine bodyPost_ret (results_cell_row rfl _ _ w.heap.size 67 _ (0, 0) _ rfl (set5 (rm.out w7 h7.out.kp)) Tryd.underlying67 rfl Tryd.size67) rfl ⟨rfl, ?_⟩
  have h8 := St.back KP0.out (by have := hr1.out; have := hsz2.out; omega) h7.out
  have e1 := hr1.out.1
  have e2 := hr1.out.2
  have e3 : Value.ownBlock (.slice (some ⟨g, 0, none⟩) 0 cap) ≠ some w.heap.size := by have := hgw.out.2; simp only [Value.ownBlock, ne_eq, Option.some.injEq]; omega
  exact ((((h8.setNew e1 e2 e3 _).setNew e1 e2 e3 _).setNew e1 e2 e3 _).setNew e1 e2 e3 _).setNew e1 e2 e3 _

set_option maxHeartbeats 1000000 in
theorem unplace_two (i2 v2 f2 : Int) (p2 : Bool) (i : Nat) (v f : Int) (p : Bool) (g cap : Nat) (N1 P1 N2 P2 : Nat → Nat) (l' : Int) (s' : Nat → Bool)
    (h : St C b w N P S Wn wt tt B first last value (.slice (some ⟨g, 0, none⟩) 2 cap) 2 ((pl i2 v2 f2 0 p2) ++ pl (i : Int) v f 0 p)) (hi : i < C.n) (hn : C.n ≤ 131072) (hv : -2147483648 ≤ v ∧ v ≤ 2147483647)
    (hnb : C.n ≤ 64 * C.nb) (hnb2 : C.nb ≤ 100000) (hm : C.m ≤ 1000000) (hh : C.h ≤ 1000000) (hih : 2 * i + 1 < C.h)
    (hN1 : upd N (P (2 * i + 1)) (2 * i + 1) = N1) (hP1 : upd P (N1 (2 * i + 1)) (2 * i + 1) = P1) (hN2 : upd N1 (P1 (2 * i)) (2 * i) = N2) (hP2 : upd P1 (N2 (2 * i)) (2 * i) = P2)
    (b1 : P (2 * i + 1) < C.h) (b2 : N1 (2 * i + 1) < C.h) (b3 : P1 (2 * i) < C.h) (b4 : N2 (2 * i) < C.h)
    (hW : Wn i < (C.m : Int)) (hS : S i < (C.m : Int)) (hw : ∀ j, -1000000 ≤ wt j ∧ wt j ≤ 1000000) (ht : ∀ j, -1000000 ≤ tt j ∧ tt j ≤ 1000000)
    (hs' : InS C.nb (remB B i) s') (h0 : -1 ≤ l') (h1 : l' ≤ last) (h2 : last < 64 * (C.nb : Int)) (hd : ∀ j : Nat, l' < (j : Int) → (j : Int) ≤ last → s' j = false) (he : ∀ j : Nat, l' = (j : Int) → s' j = true) :
    Calls Tryd.prog 32 #[.pointer (some ⟨b, 0, none⟩)] w fun r w' => r = .returned (.agg (pl (i : Int) v f 0 p).toArray) ∧ St C b w' N2 P2 S Wn (bump 1 (Wn i) wt) (bump 1 (S i) tt) (remB B i) (if (i : Int) < first then (i : Int) else first) l' v (.slice (some ⟨g, 0, none⟩) 1 cap) 1 (pl i2 v2 f2 0 p2) := by
  have hcap : 2 ≤ cap := by
    rcases h.own.2 with ⟨h0, _⟩ | ⟨g', cap', cur, h0, _, _, h1, _⟩
    · cases h0
    · cases h0; exact h1
  have hgw := hid (h.own.lt g rfl)
  have hr1 := hid (show b < w.heap.size ∧ C.lim ≤ w.heap.size from ⟨by have := h.kp.size; have := h.kp.sz; omega, by have := h.kp.size; have := h.kp.lim; omega⟩)
  have HA := hid (h.alloc (.cells #[.int .i32 0, .int .i32 0, .int .i32 0, .int .i32 0, .bool false] 67))
  have hz := hid (show (w.alloc (.cells #[.int .i32 0, .int .i32 0, .int .i32 0, .int .i32 0, .bool false] 67)).heap.size = w.heap.size + 1 from by simp)
  have hblk := hid (heap_alloc_new w (.cells #[.int .i32 0, .int .i32 0, .int .i32 0, .int .i32 0, .bool false] 67))
  have X := hid (And.intro hN1 (And.intro hP1 (And.intro hN2 (And.intro hP2 (And.intro b1 (And.intro b2 (And.intro b3 b4)))))))
  have X2 := hid (And.intro hs' (And.intro h0 (And.intro h1 (And.intro h2 (And.intro hd he)))))
  have X3 := hid (And.intro hw (And.intro ht (And.intro hW hS)))
  clear h hN1 hP1 hN2 hP2 b1 b2 b3 b4 hs' h0 h1 h2 hd he hw ht hW hS
  generalize hff : (if (i : Int) < first then (i : Int) else first) = ff
  have HFF := hid hff
  clear hff
  go_enter Tryd.func32, Tryd.ntmps32
  go_wp2_with fail
  generalize hw1 : w.alloc (.cells #[.int .i32 0, .int .i32 0, .int .i32 0, .int .i32 0, .bool false] 67) = w1 at *
  clear hw1
  have x1 : w1.cell? ⟨b, 34, none⟩ = some (.slice (some ⟨g, 0, none⟩) 2 cap) := HA.out.s.cell (by decide)
  have c0 := HA.out.own.cells (g := g) rfl 5 _ rfl
  have c1 := HA.out.own.cells (g := g) rfl 6 _ rfl
  have c2 := HA.out.own.cells (g := g) rfl 7 _ rfl
  have c3 := HA.out.own.cells (g := g) rfl 8 _ rfl
  have c4 := HA.out.own.cells (g := g) rfl 9 _ rfl
  rw [Addr.add_lit] at c0 c1 c2 c3 c4
  have HB := hid (HA.out.alloc (.cells #[.int .i32 0, .int .i32 0, .int .i32 0, .int .i32 0, .bool false] 67))
  have x1' : (w1.alloc (.cells #[.int .i32 0, .int .i32 0, .int .i32 0, .int .i32 0, .bool false] 67)).cell? ⟨b, 34, none⟩ = some (.slice (some ⟨g, 0, none⟩) 2 cap) := HB.out.s.cell (by decide)
  have c0' := HB.out.own.cells (g := g) rfl 5 _ rfl
  have c1' := HB.out.own.cells (g := g) rfl 6 _ rfl
  have c2' := HB.out.own.cells (g := g) rfl 7 _ rfl
  have c3' := HB.out.own.cells (g := g) rfl 8 _ rfl
  have c4' := HB.out.own.cells (g := g) rfl 9 _ rfl
  rw [Addr.add_lit] at c0' c1' c2' c3' c4'
  go_region
  have h2 := hid (show St C b (w1.alloc (.cells #[.int .i32 (i : Int), .int .i32 v, .int .i32 f, .int .i32 0, .bool p] 67)).drew N P S Wn wt tt B first last value (.slice (some ⟨g, 0, none⟩) 2 cap) 2 ((pl i2 v2 f2 0 p2) ++ pl (i : Int) v f 0 p) from (HA.out.alloc (.cells #[.int .i32 (i : Int), .int .i32 v, .int .i32 f, .int .i32 0, .bool p] 67)).drewN 1)
  have hblk2 := hid (show (w1.alloc (.cells #[.int .i32 (i : Int), .int .i32 v, .int .i32 f, .int .i32 0, .bool p] 67)).drew.heap[w1.heap.size]? = some (.cells (pl (i : Int) v f 0 p).toArray 67 (0, 0)) from heap_alloc_new w1 (.cells #[.int .i32 (i : Int), .int .i32 v, .int .i32 f, .int .i32 0, .bool p] 67))
  have hblk1 := hid (show (w1.alloc (.cells #[.int .i32 (i : Int), .int .i32 v, .int .i32 f, .int .i32 0, .bool p] 67)).drew.heap[w.heap.size]? = some (.cells #[.int .i32 0, .int .i32 0, .int .i32 0, .int .i32 0, .bool false] 67) from (Below.heap_alloc w1 (.cells #[.int .i32 (i : Int), .int .i32 v, .int .i32 f, .int .i32 0, .bool p] 67) _ (by have := hz.out; omega)).trans hblk.out)
  have hsz2 := hid (show (w1.alloc (.cells #[.int .i32 (i : Int), .int .i32 v, .int .i32 f, .int .i32 0, .bool p] 67)).drew.heap.size = w.heap.size + 2 from by have := hz.out; show (w1.alloc (.cells #[.int .i32 (i : Int), .int .i32 v, .int .i32 f, .int .i32 0, .bool p] 67)).heap.size = _; simp; omega)
  have hz1 := hid (show w1.heap.size = w.heap.size + 1 from hz.out)
  clear x1 c0 c1 c2 c3 c4 x1' c0' c1' c2' c3' c4' HB HA hblk hz
  generalize (w1.alloc (.cells #[.int .i32 (i : Int), .int .i32 v, .int .i32 f, .int .i32 0, .bool p] 67)).drew = w2 at *
  generalize w1.heap.size = r2 at *
  clear w1
  have h2' := hid (h2.out.rebase w2.heap.size (Nat.le_refl _))
  have KP0 := hid h2.out.kp
  have x1 : w2.cell? ⟨b, 34, none⟩ = some (.slice (some ⟨g, 0, none⟩) 2 cap) := h2.out.s.cell (by decide)
  have x2 : w2.frozen? ⟨b, 34, none⟩ = false := h2.out.s.frozen _
  clear h2
  go_wp2_with fail
  go_region
  have h3 := hid (show St { C with w0 := w2, lim := w2.heap.size } b (w2.setCell ⟨b, 34, none⟩ (.slice (some ⟨g, 0, none⟩) 1 cap)).drew N P S Wn wt tt B first last value (.slice (some ⟨g, 0, none⟩) 1 cap) 1 (pl i2 v2 f2 0 p2) from ((h2'.out.setStack (own_pop h2'.out.own rfl)).drewN 1))
  clear h2' x1 x2
  generalize (w2.setCell ⟨b, 34, none⟩ (.slice (some ⟨g, 0, none⟩) 1 cap)).drew = w3 at *
  have rn := hid (fun (wx : World) (hk : KP { C with w0 := w2, lim := w2.heap.size } b wx) => show wx.heap[r2]? = some (.cells (pl (i : Int) v f 0 p).toArray 67 (0, 0)) from (hk.block r2 (by show r2 < w2.heap.size; have := hz1.out; have := hsz2.out; omega) (by have := hz1.out; have := hr1.out; have := hk.sz; have l := h3.out.lt; simp only [List.mem_cons, List.not_mem_nil, or_false, not_or]; dsimp only at l; refine ⟨?_, ?_, ?_, ?_, ?_, ?_⟩ <;> omega)).trans hblk2.out)
  have rm := hid (fun (wx : World) (hk : KP { C with w0 := w2, lim := w2.heap.size } b wx) => show wx.heap[w.heap.size]? = some (.cells #[.int .i32 0, .int .i32 0, .int .i32 0, .int .i32 0, .bool false] 67) from (hk.block w.heap.size (by show w.heap.size < w2.heap.size; have := hsz2.out; omega) (by have := hr1.out; have l := h3.out.lt; simp only [List.mem_cons, List.not_mem_nil, or_false, not_or]; dsimp only at l; refine ⟨?_, ?_, ?_, ?_, ?_, ?_⟩ <;> omega)).trans hblk1.out)
  have q0 := (cells_of_block (rn.out w3 h3.out.kp) (j := 0) rfl).1
  have q1 : w3.cell? ⟨b, 1, none⟩ = some (.int .i64 (C.n : Int)) := h3.out.s.cell (by decide)
  go_wp2_with fail
  rw [show (2 * (i : Int) + 1) = ((2 * i + 1 : Nat) : Int) from by omega]
  refine (relink_any (C := { C with w0 := w2, lim := w2.heap.size }) (2 * i + 1) N1 P1 X.out.1 X.out.2.1 hih hh X.out.2.2.2.2.1 X.out.2.2.2.2.2.1 h3.out).mono ?_
  rintro e w4 ⟨rfl, h4⟩
  have h4 := hid h4
  clear q0 q1
  go_wp2_with fail
  rw [show (2 * (i : Int)) = ((2 * i : Nat) : Int) from by omega]
  refine (relink_any (C := { C with w0 := w2, lim := w2.heap.size }) (2 * i) N2 P2 X.out.2.2.1 X.out.2.2.2.1 (by show 2 * i < C.h; omega) hh X.out.2.2.2.2.2.2.1 X.out.2.2.2.2.2.2.2 h4.out).mono ?_
  rintro e w5 ⟨rfl, h5⟩
  have h5 := hid h5
  have q1 := (cells_of_block (rn.out w5 h5.out.kp) (j := 1) rfl).1
  have q3 := (cells_of_block (rn.out w5 h5.out.kp) (j := 3) rfl).1
  have q4 : w5.cell? ⟨b, 23, none⟩ = some (.int .i64 value) := h5.out.s.cell (by decide)
  have q5 : w5.frozen? ⟨b, 23, none⟩ = false := h5.out.s.frozen _
  obtain ⟨hv1, hv2⟩ := hv
  go_wp2_with fail
  refine undrop_any.mono ?_
  rintro e w5' ⟨rfl, rfl⟩
  go_wp2_with fail
  refine (count_any (C := { C with w0 := w2, lim := w2.heap.size }) i 1 hi (by show C.n ≤ 1000000; omega) hm (by omega) X3.out.2.2.1 X3.out.2.2.2 X3.out.1 X3.out.2.1 (h5.out.setValue v)).mono ?_
  rintro e w6 ⟨rfl, h6⟩
  have h6 := hid h6
  clear q1 q3 q4 q5
  go_wp2_with fail
  refine (mark_false (C := { C with w0 := w2, lim := w2.heap.size }) i hi (by show C.n ≤ 1000000; omega) h6.out (remove_any (C := { C with w0 := w2, lim := w2.heap.size }) i l' s' (by show i < 64 * C.nb; omega) hnb2 h6.out X2.out.1 X2.out.2.1 X2.out.2.2.1 X2.out.2.2.2.1 X2.out.2.2.2.2.1 X2.out.2.2.2.2.2)).mono ?_
  rintro e w7 ⟨rfl, h7⟩
  rw [HFF.out] at h7
  have h7 := hid h7
  have u0 := (cells_of_block (rn.out w7 h7.out.kp) (j := 0) rfl).1
  have u1 := (cells_of_block (rn.out w7 h7.out.kp) (j := 1) rfl).1
  have u2 := (cells_of_block (rn.out w7 h7.out.kp) (j := 2) rfl).1
  have u3 := (cells_of_block (rn.out w7 h7.out.kp) (j := 3) rfl).1
  have u4 := (cells_of_block (rn.out w7 h7.out.kp) (j := 4) rfl).1
  have t0 := cells_of_block (vs := [.int .i32 0, .int .i32 0, .int .i32 0, .int .i32 0, .bool false]) (rm.out w7 h7.out.kp) (j := 0) rfl
  have t1 := cells_of_block (vs := [.int .i32 0, .int .i32 0, .int .i32 0, .int .i32 0, .bool false]) (rm.out w7 h7.out.kp) (j := 1) rfl
  have t2 := cells_of_block (vs := [.int .i32 0, .int .i32 0, .int .i32 0, .int .i32 0, .bool false]) (rm.out w7 h7.out.kp) (j := 2) rfl
  have t3 := cells_of_block (vs := [.int .i32 0, .int .i32 0, .int .i32 0, .int .i32 0, .bool false]) (rm.out w7 h7.out.kp) (j := 3) rfl
  have t4 := cells_of_block (vs := [.int .i32 0, .int .i32 0, .int .i32 0, .int .i32 0, .bool false]) (rm.out w7 h7.out.kp) (j := 4) rfl
  obtain ⟨t0, t0'⟩ := t0
  obtain ⟨t1, t1'⟩ := t1
  obtain ⟨t2, t2'⟩ := t2
  obtain ⟨t3, t3'⟩ := t3
  obtain ⟨t4, t4'⟩ := t4
  have hne := hid (show r2 ≠ w.heap.size from by have := hz1.out; omega)
  go_wp2_with fail
  refine bodyPost_ret (results_cell_row rfl _ _ w.heap.size 67 _ (0, 0) _ rfl (set5 (rm.out w7 h7.out.kp)) Tryd.underlying67 rfl Tryd.size67) rfl ⟨rfl, ?_⟩
  have h8 := St.back KP0.out (by have := hr1.out; have := hsz2.out; omega) h7.out
  have e1 := hr1.out.1
  have e2 := hr1.out.2
  have e3 : Value.ownBlock (.slice (some ⟨g, 0, none⟩) 1 cap) ≠ some w.heap.size := by have := hgw.out.2; simp only [Value.ownBlock, ne_eq, Option.some.injEq]; omega
  exact ((((h8.setNew e1 e2 e3 _).setNew e1 e2 e3 _).setNew e1 e2 e3 _).setNew e1 e2 e3 _).setNew e1 e2 e3 _
end Go.Proofs.Qxb6614338aDoor
