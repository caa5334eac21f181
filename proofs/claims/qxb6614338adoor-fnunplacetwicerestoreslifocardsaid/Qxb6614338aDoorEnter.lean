import Derived.Test.Qxb6614338aDoorMain
import Derived.Deep.RegionWith
namespace Go.Proofs.Qxb6614338aDoor
open Go.RowKit

/-- The new search's cells that nobody reads. -/
def restV : Nat → Value
  | 0 => .slice none 0 0
  | 4 => .slice none 0 0
  | 10 => .slice none 0 0
  | 11 => .slice none 0 0
  | 12 => .slice none 0 0
  | 13 => .slice none 0 0
  | 14 => .slice none 0 0
  | 19 => .slice none 0 0
  | 20 => .int .i64 0
  | 21 => .int .i64 0
  | 22 => .int .i64 0
  | 24 => .slice none 0 0
  | 25 => .int .i64 0
  | 26 => .int .i64 0
  | 27 => .int .i64 0
  | 28 => .slice none 0 0
  | 29 => .int .i64 0
  | 30 => .int .i64 0
  | 31 => .int .i64 0
  | 32 => .int .i64 0
  | 35 => .map none
  | 36 => .slice none 0 0
  | 37 => .int .i64 0
  | 38 => .int .i64 0
  | 39 => .int .i64 0
  | 40 => .int .i64 0
  | 41 => .int .i64 0
  | 42 => .slice none 0 0
  | 43 => .bool false
  | 44 => .bool false
  | 45 => .int .i32 0
  | 46 => .slice none 0 0
  | 47 => .slice none 0 0
  | 48 => .slice none 0 0
  | _ => .int .i64 0

def newC (s n m gc gw gt gb : Nat) (W : World) : SC := { n := n, h := 2 * n + 1, m := m, nb := (n + 63) / 64, gn := s + 4, gp := s + 5, gS := s, gW := s + 1, gc := gc, gw := gw, gt := gt, gb := gb, rest := restV, w0 := W, lim := s + 19 }

def newCells (s n m gc gw gt gb : Nat) (vb : Int) : Array Value := #[.slice none 0 0, .int .i64 (n : Int), .slice (some ⟨s + 4, 0, none⟩) (2 * n + 1) (2 * n + 1), .slice (some ⟨s + 5, 0, none⟩) (2 * n + 1) (2 * n + 1), .slice none 0 0, .slice (some ⟨s, 0, none⟩) n n, .slice (some ⟨s + 1, 0, none⟩) n n, .slice (some ⟨gc, 0, none⟩) n n, .slice (some ⟨gw, 0, none⟩) m m, .slice (some ⟨gt, 0, none⟩) m m, .slice none 0 0, .slice none 0 0, .slice none 0 0, .slice none 0 0, .slice none 0 0, .slice (some ⟨gb, 0, none⟩) ((n + 63) / 64) ((n + 63) / 64), .int .i64 (n : Int), .int .i64 0, .int .i64 (-1), .slice none 0 0, .int .i64 0, .int .i64 0, .int .i64 0, .int .i64 vb, .slice none 0 0, .int .i64 0, .int .i64 0, .int .i64 0, .slice none 0 0, .int .i64 0, .int .i64 0, .int .i64 0, .int .i64 0, .slice none 0 0, .slice none 0 0, .map none, .slice none 0 0, .int .i64 0, .int .i64 0, .int .i64 0, .int .i64 0, .int .i64 0, .slice none 0 0, .bool false, .bool false, .int .i32 0, .slice none 0 0, .slice none 0 0, .slice none 0 0]

theorem newCells_at (s n m gc gw gt gb : Nat) (vb : Int) (W : World) : ∀ i, i < 49 → (newCells s n m gc gw gt gb vb)[i]? = some (sfn (newC s n m gc gw gt gb W) 0 (-1) vb (.slice none 0 0) i)
  | 0, _ => rfl
  | 1, _ => rfl
  | 2, _ => rfl
  | 3, _ => rfl
  | 4, _ => rfl
  | 5, _ => rfl
  | 6, _ => rfl
  | 7, _ => rfl
  | 8, _ => rfl
  | 9, _ => rfl
  | 10, _ => rfl
  | 11, _ => rfl
  | 12, _ => rfl
  | 13, _ => rfl
  | 14, _ => rfl
  | 15, _ => rfl
  | 16, _ => rfl
  | 17, _ => rfl
  | 18, _ => rfl
  | 19, _ => rfl
  | 20, _ => rfl
  | 21, _ => rfl
  | 22, _ => rfl
  | 23, _ => rfl
  | 24, _ => rfl
  | 25, _ => rfl
  | 26, _ => rfl
  | 27, _ => rfl
  | 28, _ => rfl
  | 29, _ => rfl
  | 30, _ => rfl
  | 31, _ => rfl
  | 32, _ => rfl
  | 33, _ => rfl
  | 34, _ => rfl
  | 35, _ => rfl
  | 36, _ => rfl
  | 37, _ => rfl
  | 38, _ => rfl
  | 39, _ => rfl
  | 40, _ => rfl
  | 41, _ => rfl
  | 42, _ => rfl
  | 43, _ => rfl
  | 44, _ => rfl
  | 45, _ => rfl
  | 46, _ => rfl
  | 47, _ => rfl
  | 48, _ => rfl
  | n + 49, h => absurd h (by omega)

/-- What is known ahead of the making of the search. -/
structure Pre (w0 wa : World) (s n m a c : Nat) (v0 va : Int) (S Wn : Nat → Int) (rk N0 P0 : Nat → Nat) : Prop where
  size : wa.heap.size = s + 14
  s0 : w0.heap.size ≤ s
  s1 : 0 < s
  tab : Tab wa
  below : Below w0.heap.size w0 wa
  n2 : 2 ≤ n
  n3 : n ≤ 65536
  m0 : 1 ≤ m
  m1 : m ≤ 65536
  ha : a < n
  hc : c < n
  hac : a ≠ c
  v0 : 0 ≤ v0 ∧ v0 < 65536
  va : 0 ≤ va ∧ va < 65536
  bS : ∀ i, i < n → S i < (m : Int)
  bW : ∀ i, i < n → Wn i < (m : Int)
  lk : Lk (2 * n) rk (fun _ => False) N0 P0
  r0 : RI wa s n S
  r1 : RI wa (s + 1) n Wn
  r2 : RI wa (s + 2) (2 * n + 1) (fun i => (N0 i : Int))
  r3 : RI wa (s + 3) (2 * n + 1) (fun i => (P0 i : Int))
  r4 : RI wa (s + 4) (2 * n + 1) (fun i => (NN (NN N0 P0 a) (PP N0 P0 a) c i : Int))
  r5 : RI wa (s + 5) (2 * n + 1) (fun i => (PP (NN N0 P0 a) (PP N0 P0 a) c i : Int))
  r6 : RI wa (s + 6) (2 * n + 1) (fun i => (NN N0 P0 a i : Int))
  r7 : RI wa (s + 7) (2 * n + 1) (fun i => (PP N0 P0 a i : Int))
  r9 : RB wa (s + 9) n (fun i => i == a)
  r10 : RI wa (s + 10) m (fun v => cnt Wn (fun _ => false) n v)
  r11 : RI wa (s + 11) m (fun v => cnt S (fun _ => false) n v)
  r12 : RI wa (s + 12) m (fun v => cnt Wn (fun i => i == a) n v)
  r13 : RI wa (s + 13) m (fun v => cnt S (fun i => i == a) n v)

variable {w0 wa : World} {s n m a c : Nat} {v0 va : Int} {S Wn : Nat → Int} {rk N0 P0 : Nat → Nat}

theorem row_new {wa W : World} {o : Obj} {g k : Nat} {t : TypeId} {f : Nat → Value} (r : wa.rowIs g t k f) (hb : Below wa.heap.size wa W) : (W.alloc o).rowIs g t k f :=
  World.rowIs.alloc (r.of_block (hb.block g r.lt)) o

/-- The four blocks that the search's making brings. -/
structure Four (s gc gw gt gb : Nat) : Prop where
  c1 : s + 14 ≤ gc ∧ gc < s + 18
  w1 : s + 14 ≤ gw ∧ gw < s + 18
  t1 : s + 14 ≤ gt ∧ gt < s + 18
  b1 : s + 14 ≤ gb ∧ gb < s + 18
  d : gc ≠ gw ∧ gc ≠ gt ∧ gc ≠ gb ∧ gw ≠ gt ∧ gw ≠ gb ∧ gt ≠ gb

theorem enteredF (p : Pre w0 wa s n m a c v0 va S Wn rk N0 P0) {W : World} (hb : Below wa.heap.size wa W) (hs : W.heap.size = s + 18) {gc gw gt gb : Nat} (d : Four s gc gw gt gb) (o : Obj) :
    Fx (newC s n m gc gw gt gb (W.alloc o)) (s + 18) w0 a c v0 va S Wn rk N0 P0 (s + 2) (s + 3) (s + 6) (s + 7) (s + 9) (s + 10) (s + 11) (s + 12) (s + 13) := by
  obtain ⟨c1, w1, t1, b1, d⟩ := d
  have n3 := p.n3
  have s0 := p.s0
  have hz := p.size
  refine ⟨p.n2, p.n3, by show n ≤ 64 * ((n + 63) / 64); omega, by show (n + 63) / 64 ≤ 100000; omega, p.m1, rfl, p.ha, p.hc, p.hac, p.v0, p.va, p.bS, p.bW, p.lk, rfl, ?_, row_new p.r2 hb, row_new p.r3 hb, row_new p.r6 hb, row_new p.r7 hb, row_new p.r9 hb, row_new p.r10 hb, row_new p.r11 hb, row_new p.r12 hb, row_new p.r13 hb, ?_, ?_⟩
  · intro g hg
    have : s + 2 ≤ g ∧ g ≤ s + 13 ∧ g ≠ s + 4 ∧ g ≠ s + 5 := by
      simp only [List.mem_cons, List.not_mem_nil, or_false] at hg
      omega
    refine ⟨by show g < s + 19; omega, ?_⟩
    intro q
    simp only [List.mem_cons, List.not_mem_nil, or_false, newC] at q
    omega
  · exact ⟨hb.os.trans p.below.os, hb.tape.trans p.below.tape, hb.output.trans p.below.output, by have := p.below.size; have := hb.size; show w0.heap.size ≤ (W.alloc o).heap.size; simp; omega, fun i hi => ((Below.heap_alloc W o i (by omega)).trans (hb.block i (by omega))).trans (p.below.block i hi)⟩
  · refine ⟨by show w0.heap.size ≤ s + 19; omega, fun g q => ?_⟩
    simp only [List.mem_cons, List.not_mem_nil, or_false, newC] at q
    omega

theorem enteredS (p : Pre w0 wa s n m a c v0 va S Wn rk N0 P0) {W : World} (hb : Below wa.heap.size wa W) (hs : W.heap.size = s + 18) {gc gw gt gb : Nat} (d : Four s gc gw gt gb) (vb : Int)
    (rc : RI W gc n (fun _ => -1)) (rw : RI W gw m (fun v => cnt Wn (fun _ => false) n v)) (rt : RI W gt m (fun v => cnt S (fun _ => false) n v)) (rb : RW W gb ((n + 63) / 64) (fun _ => 0)) :
    St (newC s n m gc gw gt gb (W.alloc (.cells (newCells s n m gc gw gt gb vb) 63))) (s + 18) (W.alloc (.cells (newCells s n m gc gw gt gb vb) 63)) (NN (NN N0 P0 a) (PP N0 P0 a) c) (PP (NN N0 P0 a) (PP N0 P0 a) c) S Wn (fun v : Nat => cnt Wn (fun _ => false) n v) (fun v : Nat => cnt S (fun _ => false) n v) (fun _ => 0) 0 (-1) vb (.slice none 0 0) 0 [] := by
  obtain ⟨c1, w1, t1, b1, d⟩ := d
  have s1 := p.s1
  have hz := p.size
  refine ⟨⟨newCells s n m gc gw gt gb vb, by rw [← hs]; exact heap_alloc_new W _, rfl, newCells_at s n m gc gw gt gb vb _⟩, row_new p.r4 hb, row_new p.r5 hb, row_new p.r0 hb, row_new p.r1 hb, World.rowIs.alloc rc _, World.rowIs.alloc rw _, World.rowIs.alloc rt _, World.rowIs.alloc rb _, ?_, ?_, ?_, fun _ => by decide, World.ownsRow_nil _ _ _ _, ⟨rfl, rfl, rfl, Nat.le_refl _, ?_, ?_, fun _ _ _ => rfl⟩, ?_⟩
  · constructor <;> (simp only [newC]; omega)
  · have hbl : ∀ i, i < wa.heap.size → (W.alloc (.cells (newCells s n m gc gw gt gb vb) 63)).heap[i]? = wa.heap[i]? := fun i hi => (Below.heap_alloc W _ i (by omega)).trans (hb.block i hi)
    exact ⟨(World.cell?_of_block (hbl 0 (by omega))).trans p.tab.1, (World.cell?_of_block (hbl 0 (by omega))).trans p.tab.2⟩
  · simp only [newC]; omega
  · simp only [newC]; simp; omega
  · simp only [newC]; simp; omega
  · simp only [newC]; omega


theorem Tryd.info78 : (Tryd.prog.info? 78).map (fun i => (i.zero, i.size, i.bytes)) = some (some (.int .u64 0), 1, 8) := by kernel_rfl

/-- How far the making has come. -/
structure Acc (s : Nat) (wa wx : World) (k : Nat) : Prop where
  b : Below wa.heap.size wa wx
  a : wa.heap.size = s + 14
  z : wx.heap.size = s + 14 + k

theorem Acc.start {wa : World} (h : wa.heap.size = s + 14) : Acc s wa wa.drew 0 := ⟨⟨rfl, rfl, rfl, Nat.le_refl _, fun _ _ => rfl⟩, h, h⟩
theorem Acc.startA {wa : World} (h : wa.heap.size = s + 14) (o : Obj) : Acc s wa (wa.alloc o).drew 1 := ⟨⟨rfl, rfl, rfl, by show wa.heap.size ≤ (wa.alloc o).heap.size; simp, fun i hi => Below.heap_alloc wa o i hi⟩, h, by show (wa.alloc o).heap.size = _; simp [h]⟩
theorem Acc.alloc {wa wx : World} {k : Nat} (h : Acc s wa wx k) (o : Obj) : Acc s wa (wx.alloc o) (k + 1) := ⟨h.b.alloc h.b.size o, h.a, by simp [h.z]; omega⟩
theorem Acc.al {wa wx : World} {k k' : Nat} (h : Acc s wa wx k) (o : Obj) (hk : decide (k + 1 = k') = true) : Acc s wa (wx.alloc o) k' := by
  have := of_decide_eq_true hk
  subst this
  exact h.alloc o
theorem Acc.next {wa wx w' : World} {k : Nat} (h : Acc s wa wx k) (b : Below wx.heap.size wx w') (z : w'.heap.size = wx.heap.size + 1) : Acc s wa w' (k + 1) := ⟨h.b.trans (b.mono h.b.size), h.a, by rw [z, h.z]; omega⟩

theorem wrapNb (n : Nat) (hn : n ≤ 65536) : IntKind.i64.wrap ((IntKind.i64.wrap ((n : Int) + 63)).tdiv 64) = (((n + 63) / 64 : Nat) : Int) := by
  have h1 : IntKind.i64.wrap ((n : Int) + 63) = (n : Int) + 63 := by rw [IntKind.wrap_i64]; omega
  rw [h1, Int.tdiv_eq_ediv_of_nonneg (by omega), IntKind.wrap_i64]
  omega

theorem row_later {wa wx : World} {g k : Nat} {Z : Nat → Int} (r : RI wa g k Z) (hb : Below wa.heap.size wa wx) : RI wx g k Z := World.rowIs.of_block r (hb.block g r.lt)

/-- Made by one of the calls: the row, and that what was there stays. -/
structure Got (s : Nat) (wa wx w' : World) (k l : Nat) (Z : Nat → Int) : Prop where
  a : Acc s wa w' (k + 1)
  b : Below wx.heap.size wx w'
  r : RI w' (s + 14 + k) l Z

theorem nocuesA {wa wx : World} {k n : Nat} (hn : n ≤ 1000000) (hA : Acc s wa wx k) :
    Calls Tryd.prog 14 #[.int .i64 (n : Int)] wx fun e w' => e = .returned (.slice (some ⟨s + 14 + k, 0, none⟩) n n) ∧ Got s wa wx w' k n (fun _ => -1) := by
  refine (nocues_any n wx hn).mono ?_
  rintro e w' ⟨rfl, r, b, z⟩
  have hz := hA.z
  exact ⟨by rw [hz], hA.next b z, b, by rw [← hz]; exact r⟩

theorem cloneA {wa wx : World} {k g m : Nat} {Z : Nat → Int} (hm : m ≤ 1000000) (h1 : 1 ≤ m) (r : RI wa g m Z) (hA : Acc s wa wx k) :
    Calls Tryd.prog 8 #[.slice (some ⟨g, 0, none⟩) m m] wx fun e w' => e = .returned (.slice (some ⟨s + 14 + k, 0, none⟩) m m) ∧ Got s wa wx w' k m Z := by
  refine (clone_any (some ⟨g, 0, none⟩) m m Z wx hm h1 (row_later r hA.b).row).mono ?_
  rintro e w' ⟨rfl, r, b, z⟩
  have hz := hA.z
  exact ⟨by rw [hz], hA.next b z, b, by rw [← hz]; exact r⟩

theorem newA {wa wx : World} {n m gc gw gt gb : Nat} {vb : Int} (hA : Acc s wa wx 4) :
    Calls Tryd.prog 13 #[.int .i64 (n : Int), .slice (some ⟨s + 4, 0, none⟩) (2 * n + 1) (2 * n + 1), .slice (some ⟨s + 5, 0, none⟩) (2 * n + 1) (2 * n + 1), .slice (some ⟨s, 0, none⟩) n n, .slice (some ⟨s + 1, 0, none⟩) n n, .slice (some ⟨gc, 0, none⟩) n n, .slice (some ⟨gw, 0, none⟩) m m, .slice (some ⟨gt, 0, none⟩) m m, .int .i64 vb, .slice (some ⟨gb, 0, none⟩) ((n + 63) / 64) ((n + 63) / 64)] wx fun e w' => e = .returned (.pointer (some ⟨s + 18, 0, none⟩)) ∧ w' = wx.alloc (.cells (newCells s n m gc gw gt gb vb) 63) := by
  refine (new_any n (s + 4) (s + 5) (2 * n + 1) s (s + 1) gc gw gt m gb ((n + 63) / 64) vb wx).mono ?_
  rintro e w' ⟨rfl, rfl⟩
  exact ⟨by rw [hA.z], rfl⟩

theorem rowL {w w' : World} {g k : Nat} {t : TypeId} {f : Nat → Value} (r : w.rowIs g t k f) (hb : Below w.heap.size w w') : w'.rowIs g t k f := r.of_block (hb.block g r.lt)

theorem made_row (w : World) (k : Nat) : RW (w.alloc (.cells (madeCells #[.int .u64 0] k) 78)) w.heap.size k (fun _ => 0) := World.rowIs_made w (.int .u64 0) k 78
theorem made_rowD (w : World) (k : Nat) : RW (w.alloc (.cells (madeCells #[.int .u64 0] k) 78)).drew w.heap.size k (fun _ => 0) := made_row w k

end Go.Proofs.Qxb6614338aDoor
