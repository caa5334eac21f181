import Derived.Test.Qxb6614338aDoorEnter
namespace Go.Proofs.Qxb6614338aDoor
open Go.RowKit

/-- A row that has been made and is not written any more. -/
structure Rw where
  g : Nat
  t : TypeId
  n : Nat
  f : Nat → Value

def Rw.I (g n : Nat) (Z : Nat → Int) : Rw := ⟨g, 3, n, fun i => .int .i64 (Z i)⟩
def Rw.B (g n : Nat) (Z : Nat → Bool) : Rw := ⟨g, 4, n, fun i => .bool (Z i)⟩

/-- How far the law's own making has come. -/
structure Sx (w0 : World) (s : Nat) (w : World) (k : Nat) (l : List Rw) : Prop where
  size : w.heap.size = s + k
  s0 : w0.heap.size ≤ s
  s1 : 0 < s
  tab : Tab w
  below : Below w0.heap.size w0 w
  all : ∀ x, x ∈ l → w.rowIs x.g x.t x.n x.f

variable {w0 wa : World} {s k k' : Nat} {l : List Rw}

theorem Sx.step {w w' : World} (h : Sx w0 s w k l) (b : Below w.heap.size w w') (z : w'.heap.size = s + k') : Sx w0 s w' k' l :=
  ⟨z, h.s0, h.s1, h.tab.later b, h.below.trans (b.mono h.below.size), fun x hx => (h.all x hx).of_block (b.block x.g (h.all x hx).lt)⟩

theorem Sx.kept {w w' : World} {T : List Nat} (h : Sx w0 s w k l) (b : Kept T w w') (z : w'.heap.size = w.heap.size) (hT : ∀ g, g ∈ T → s ≤ g) (hl : ∀ x, x ∈ l → x.g ∉ T) : Sx w0 s w' k l := by
  have hs := h.s0
  have h1 := h.s1
  have h2 := h.below.size
  have bl : ∀ i, i < s → w'.heap[i]? = w.heap[i]? := fun i hi => b.block i (by have := h.size; omega) fun q => by have := hT i q; omega
  refine ⟨z.trans h.size, h.s0, h.s1, ⟨(World.cell?_of_block (bl 0 h1)).trans h.tab.1, (World.cell?_of_block (bl 0 h1)).trans h.tab.2⟩, ⟨b.os.trans h.below.os, b.tape.trans h.below.tape, b.output.trans h.below.output, by omega, fun i hi => (bl i (by omega)).trans (h.below.block i hi)⟩, fun x hx => b.row (h.all x hx) (hl x hx)⟩

theorem Sx.cons {w : World} (h : Sx w0 s w k l) {x : Rw} (r : w.rowIs x.g x.t x.n x.f) : Sx w0 s w k (x :: l) :=
  ⟨h.size, h.s0, h.s1, h.tab, h.below, fun y hy => by rcases List.mem_cons.1 hy with rfl | hy <;> first | exact r | exact h.all y hy⟩

theorem Sx.tail {w : World} {x : Rw} (h : Sx w0 s w k (x :: l)) : Sx w0 s w k l := ⟨h.size, h.s0, h.s1, h.tab, h.below, fun y hy => h.all y (List.mem_cons_of_mem _ hy)⟩
theorem Sx.head {w : World} {x : Rw} (h : Sx w0 s w k (x :: l)) : w.rowIs x.g x.t x.n x.f := h.all x (List.mem_cons_self ..)

/-- What clone leaves, in these words. -/
structure Cl (w0 : World) (s : Nat) (w w' : World) (k n : Nat) (Z : Nat → Int) (l : List Rw) : Prop where
  x : Sx w0 s w' (k + 1) (Rw.I (s + k) n Z :: l)
  b : Below w.heap.size w w'

theorem cloneS {w : World} {a : Option Addr} {n c : Nat} {Z : Nat → Int} (h : Sx w0 s w k l) (hn : n ≤ 1000000) (h1 : 1 ≤ n) (r : RowI w a n Z) :
    Calls Tryd.prog 8 #[.slice a n c] w fun e w' => e = .returned (.slice (some ⟨s + k, 0, none⟩) n n) ∧ Cl w0 s w w' k n Z l := by
  refine (clone_any a n c Z w hn h1 r).mono ?_
  rintro e w' ⟨rfl, r, b, z⟩
  have hz := h.size
  refine ⟨by rw [hz], (h.step b (by omega)).cons (x := Rw.I (s + k) n Z) ?_, b⟩
  show RI w' (s + k) n Z
  rw [← hz]
  exact r

/-- What BuildLinks leaves. -/
structure Bl (w0 : World) (s : Nat) (w w' : World) (k h : Nat) (l : List Rw) : Prop where
  x : ∃ rk N P, Lk h rk (fun _ => False) N P ∧ Sx w0 s w' (k + 2) (Rw.I (s + (k + 1)) (h + 1) (fun i => (P i : Int)) :: Rw.I (s + k) (h + 1) (fun i => (N i : Int)) :: l)
  b : Below w.heap.size w w'

theorem buildS {w : World} {a : Option Addr} {h c : Nat} {Z : Nat → Nat} (X : Sx w0 s w k l) (hm : h ≤ 262144) (V : Perm h Z) (r : RowI w a h (fun i => (Z i : Int))) :
    Calls Tryd.prog 9 #[.slice a h c] w fun e w' => e = .returned (.tuple #[.slice (some ⟨s + k, 0, none⟩) (h + 1) (h + 1), .slice (some ⟨s + (k + 1), 0, none⟩) (h + 1) (h + 1)]) ∧ Bl w0 s w w' k h l := by
  refine (build_any a h c Z w hm V r).mono ?_
  rintro e w' ⟨rfl, ⟨rk, N, P, L, rN, rP⟩, b, z⟩
  have hz := X.size
  refine ⟨by rw [hz]; rfl, ⟨rk, N, P, L, ((X.step (k' := k + 2) b (by omega)).cons (x := Rw.I (s + k) (h + 1) (fun i => (N i : Int))) ?_).cons (x := Rw.I (s + (k + 1)) (h + 1) (fun i => (P i : Int))) ?_⟩, b⟩
  · show RI w' (s + k) (h + 1) _
    rw [← hz]
    exact rN
  · show RI w' (s + (k + 1)) (h + 1) _
    rw [← Nat.add_assoc, ← hz]
    exact rP

/-- What recount leaves. -/
structure Rc (w0 : World) (s : Nat) (w w' : World) (k m : Nat) (U V : Nat → Int) (l : List Rw) : Prop where
  x : Sx w0 s w' (k + 2) (Rw.I (s + (k + 1)) m V :: Rw.I (s + k) m U :: l)
  b : Below w.heap.size w w'

theorem recountS {w : World} {gp n m : Nat} {S Wn : Nat → Int} {pl : Nat → Bool} (X : Sx w0 s w k l) (hn : n ≤ 262144) (hm : m ≤ 65536) (hS : RI w s n S) (hW : RI w (s + 1) n Wn) (hp : RB w gp n pl)
    (bS : ∀ i, i < n → -1 ≤ S i ∧ S i < m) (bW : ∀ i, i < n → -1 ≤ Wn i ∧ Wn i < m) :
    Calls Tryd.prog 12 #[.slice (some ⟨s, 0, none⟩) n n, .slice (some ⟨s + 1, 0, none⟩) n n, .int .i64 (m : Int), .slice (some ⟨gp, 0, none⟩) n n] w fun e w' => e = .returned (.tuple #[.slice (some ⟨s + k, 0, none⟩) m m, .slice (some ⟨s + (k + 1), 0, none⟩) m m]) ∧ Rc w0 s w w' k m (fun v => cnt Wn pl n v) (fun v => cnt S pl n v) l := by
  refine (recount_any s (s + 1) gp n m S Wn pl w hn hm hS hW hp bS bW).mono ?_
  rintro e w' ⟨rfl, rN, rP, b, z⟩
  have hz := X.size
  refine ⟨by rw [hz]; rfl, ((X.step (k' := k + 2) b (by omega)).cons (x := Rw.I (s + k) m _) ?_).cons (x := Rw.I (s + (k + 1)) m _) ?_, b⟩
  · show RI w' (s + k) m _
    rw [← hz]
    exact rN
  · show RI w' (s + (k + 1)) m _
    rw [← Nat.add_assoc, ← hz]
    exact rP

/-- What unlink leaves. -/
structure Ul (w0 : World) (s : Nat) (w' : World) (k m : Nat) (N P : Nat → Nat) (l : List Rw) : Prop where
  x : Sx w0 s w' k l
  n : RI w' (s + 4) m (fun i => (N i : Int))
  p : RI w' (s + 5) m (fun i => (P i : Int))

theorem unlinkS {w : World} {m e : Nat} {N P : Nat → Nat} (X : Sx w0 s w k l) (hl : ∀ x, x ∈ l → x.g ∉ [s + 4, s + 5]) (_hm : m ≤ 1000000) (he : e < m) (h1 : N e < m) (h2 : P e < m) (hN : RI w (s + 4) m (fun i => (N i : Int))) (hP : RI w (s + 5) m (fun i => (P i : Int))) :
    Calls Tryd.prog 11 #[.slice (some ⟨s + 4, 0, none⟩) m m, .slice (some ⟨s + 5, 0, none⟩) m m, .int .i64 (e : Int)] w fun r w' => r = .returned (.tuple #[]) ∧ Ul w0 s w' k m (unlN N P e) (unlP N P e) l := by
  have x1 := hN.cell (i := e) he
  have x2 := hP.cell (i := e) he
  have x3 := hN.cell (i := P e) h2
  have x4 := hN.frozen (P e)
  have x5 := hP.cell (i := N e) h1
  have x6 := hP.frozen (N e)
  have hne : ¬ s + 4 = s + 5 := by omega
  have hfin := hid (show Ul w0 s ((w.setCell ⟨s + 4, P e, none⟩ (.int .i64 (N e : Int))).setCell ⟨s + 5, N e, none⟩ (.int .i64 (P e : Int))) k m (unlN N P e) (unlP N P e) l from
    ⟨X.kept (T := [s + 4, s + 5]) (((Kept.refl _ w).set (by simp) _).set (by simp) _) (by simp [World.setCell]) (by intro g hg; simp only [List.mem_cons, List.not_mem_nil, or_false] at hg; omega) hl, ((hN.set (P e) _).other (by show s + 4 ≠ s + 5; omega) _).congr (fun i _ => by simp only [unlN, upd]; split <;> rfl), ((hP.other (by show s + 5 ≠ s + 4; omega) _).set (N e) _).congr (fun i _ => by simp only [unlP, upd]; split <;> rfl)⟩)
  clear hN hP X hl
  generalize hNe : N e = ne at *
  generalize hPe : P e = pe at *
  generalize (N pe : Int) = y1 at *
  generalize (P ne : Int) = y2 at *
  have HNe := hid hNe
  have HPe := hid hPe
  clear hNe hPe
  generalize hg4 : s + 4 = g4 at *
  generalize hg5 : s + 5 = g5 at *
  have HG := hid (And.intro hg4 hg5)
  clear hg4 hg5
  go_enter Tryd.func11, Tryd.ntmps11
  go_wp2_with fail
  go_end0
  exact ⟨rfl, hfin.out⟩

end Go.Proofs.Qxb6614338aDoor
