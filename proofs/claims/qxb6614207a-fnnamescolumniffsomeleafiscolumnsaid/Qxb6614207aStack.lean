import Derived.Test.Qxb6614207aTrees
import Derived.Laws.CopyOwn
import Derived.Deep.DeepAppendRoom
import Derived.Deep.OwnRows
namespace Go.Proofs.Qxb6614207a
open Go.RowKit

theorem Try.info26 : (Try.prog.info? 26).map (fun i => (i.zero, i.size, i.bytes)) = some (some .nilIface, 1, 16) := by kernel_rfl

/-- What stands in the stack's array: n trees, one of which names a column iff b. -/
def Inv (B L : Nat) (w wr : World) (n : Nat) (b : Bool) : Prop :=
  ∃ xs N, wr.ownsRow B 26 1 (.slice (some ⟨B, 0, none⟩) n (L + 1)) n xs ∧ Reps B wr N xs b ∧ Below B w wr

def hasZ (Z : Nat → Int) (k : Nat) : Bool := anyB (fun i => Z i == 0) k

theorem hasZ_succ (Z : Nat → Int) (k : Nat) : hasZ Z (k + 1) = (hasZ Z k || (Z k == 0)) := anyB_succ _ _

/-- The cells outside B are kept. -/
def Keeps (B : Nat) (w w' : World) : Prop := ∀ a x, a.block ≠ B → w.cell? a = some x → w'.cell? a = some x

theorem Keeps.refl (B : Nat) (w : World) : Keeps B w w := fun _ _ _ h => h
theorem Keeps.trans {B : Nat} {w1 w2 w3 : World} (h : Keeps B w1 w2) (k : Keeps B w2 w3) : Keeps B w1 w3 := fun a x ha hx => k a x ha (h a x ha hx)
theorem Keeps.alloc (B : Nat) (w : World) (o : Obj) : Keeps B w (w.alloc o) := fun _ _ _ h => (World.cell?_alloc_lt _ _ _ (World.block_lt_of_cell? _ _ h)).trans h
theorem Keeps.set (B : Nat) (w : World) (j : Nat) (v : Value) : Keeps B w (w.setCell ⟨B, j, none⟩ v) := fun a x ha h => by
  rw [World.cell?_setCell_other _ _ _ _ (fun e => ha (by rw [← e]))]; exact h
theorem Keeps.grown {B : Nat} {w w' : World} (h : w.grownBy w' (some B)) : Keeps B w w' := fun a x ha hx => h.cell hx (by simpa using ha)

theorem one_new2 (w : World) (o1 : Obj) (x : Value) (t : TypeId) : ∀ j u, [x][j]? = some u → ((w.alloc o1).alloc (.cells #[x] t)).cell? ((⟨w.heap.size + 1, 0, none⟩ : Addr).add j) = some u := by
  have := cell_one_new (w.alloc o1) x t
  simpa using this

theorem oneCell_iface (t : TypeId) (v : Value) : ∀ u ∈ [Value.iface t v], u.oneCell' = true := by
  intro u hu
  simp at hu
  subst hu
  rfl

theorem snoc_of_length {xs : List Value} {m : Nat} (h : xs.length = m + 1) : ∃ ys x, xs = ys ++ [x] := by
  have hne : xs ≠ [] := by intro e; subst e; simp at h
  exact ⟨xs.dropLast, xs.getLast hne, (List.dropLast_concat_getLast hne).symm⟩

theorem snoc2_of_length {xs : List Value} {m : Nat} (h : xs.length = m + 2) : ∃ ys x y, xs = ys ++ [x, y] := by
  obtain ⟨zs, y, rfl⟩ := snoc_of_length (m := m + 1) h
  obtain ⟨ys, x, rfl⟩ := snoc_of_length (xs := zs) (m := m) (by simpa using h)
  exact ⟨ys, x, y, by simp⟩

theorem snoc3_of_length {xs : List Value} {m : Nat} (h : xs.length = m + 3) : ∃ ys x y z, xs = ys ++ [x, y, z] := by
  obtain ⟨zs, z, rfl⟩ := snoc_of_length (m := m + 2) h
  obtain ⟨ys, x, y, rfl⟩ := snoc2_of_length (xs := zs) (m := m) (by simpa using h)
  exact ⟨ys, x, y, z, by simp⟩

theorem Rep.iface {B : Nat} {w : World} {N : Nat} {v : Value} {b : Bool} (h : Rep B w N v b) : ∃ t p, v = .iface t (.pointer p) := by
  cases N with
  | zero => exact h.elim
  | succ n =>
    rcases h with ⟨p, rfl, rfl⟩ | ⟨p, rfl, rfl⟩ | ⟨p, rfl, rfl⟩ | ⟨p, rfl, rfl⟩ | ⟨a, c, m, V, D, rfl, ha, hcB, hm, h1, hk, rfl⟩ | ⟨a, x, rfl, ha, h1, hx⟩ | ⟨a, x, y, bx, byy, rfl, ha, h1, h2, hx, hy, rfl⟩ | ⟨a, x, rfl, ha, h1, hx⟩ | ⟨a, c, m, x, bx, V, D, rfl, ha, hcB, hm, h0, hx, h1, hk, rfl⟩ | ⟨a, x, y, z, bx, byy, bz, rfl, ha, h0, h1, h2, hx, hy, hz, rfl⟩ <;> exact ⟨_, _, rfl⟩

theorem Reps.iface {B : Nat} {w : World} {N : Nat} : ∀ {xs : List Value} {b : Bool}, Reps B w N xs b → ∀ x ∈ xs, ∃ t p, x = .iface t (.pointer p)
  | [], _, _, x, hx => by simp at hx
  | y :: ys, _, ⟨_, _, h1, h2, _⟩, x, hx => by
    rcases List.mem_cons.1 hx with e | hx
    · subst e; exact h1.iface
    · exact Reps.iface h2 x hx

/-- A shorter slice of the same array. -/
theorem owns_cut {w : World} {B L n n' : Nat} {xs : List Value} (h : w.ownsRow B 26 1 (.slice (some ⟨B, 0, none⟩) n L) n xs) (hn : n' ≤ n) : w.ownsRow B 26 1 (.slice (some ⟨B, 0, none⟩) n' L) n' (xs.take n') := by
  obtain ⟨h1, h2⟩ := h
  refine ⟨by simp; omega, ?_⟩
  rcases h2 with ⟨h2, _⟩ | ⟨g, cap, cur, hv, hg, hh, hnc, hcm, hcs, ht⟩
  · cases h2
  · cases hv
    refine .inr ⟨_, _, cur, rfl, hg, hh, by omega, hcm, hcs, ?_⟩
    rw [← ht, List.take_take]
    congr 1
    omega

/-- The top trees make room for one. -/
theorem owns_put {w : World} {B L n m : Nat} {ys zs : List Value} (v : Value) (h : w.ownsRow B 26 1 (.slice (some ⟨B, 0, none⟩) n L) n (ys ++ zs)) (hm : ys.length = m) (hn : m < n) :
    (w.setCell ⟨B, m, none⟩ v).ownsRow B 26 1 (.slice (some ⟨B, 0, none⟩) (m + 1) L) (m + 1) (ys ++ [v]) := by
  have hl := h.1
  have h1 := owns_cut (h.stored m v).1 (n' := m + 1) (by omega)
  have e : ((ys ++ zs).set m v).take (m + 1) = ys ++ [v] := by
    subst hm
    cases zs with
    | nil => simp at hl; omega
    | cons z zs => simp [List.take_append, List.take_of_length_le]
  rw [e] at h1
  exact h1

theorem inv_node {B L m N : Nat} {w wr w2 : World} {b : Bool} {ys zs : List Value} {v : Value} (hown2 : w2.ownsRow B 26 1 (.slice (some ⟨B, 0, none⟩) (m + 1) (L + 1)) (m + 1) (ys ++ [v]))
    (hreps : Reps B wr N (ys ++ zs) b) (hk : Keeps B wr w2) (hv : ∀ bz, Reps B w2 N zs bz → Rep B w2 (N + 1) v bz) (hbel : Below B w w2) : Inv B L w w2 (m + 1) b := by
  obtain ⟨b1, b2, h1, h2, rfl⟩ := hreps.split
  exact ⟨_, N + 1, hown2, (h1.world hk).up.app (Reps.one.2 (hv _ (h2.world hk))), hbel⟩

theorem Inv.lt {B L n : Nat} {wr : World} {xs : List Value} (h : wr.ownsRow B 26 1 (.slice (some ⟨B, 0, none⟩) n (L + 1)) n xs) : B < wr.heap.size := (h.lt B rfl).2

theorem inv_same {B L n N : Nat} {w wr : World} {b : Bool} {xs : List Value} (hown : wr.ownsRow B 26 1 (.slice (some ⟨B, 0, none⟩) n (L + 1)) n xs) (hreps : Reps B wr N xs b) (hbel : Below B w wr) : Hid (Inv B L w wr n (b || false)) := by
  rw [Bool.or_false]
  exact ⟨xs, N, hown, hreps, hbel⟩

/-- NOT, IS NULL. -/
theorem inv_unary {B L m N : Nat} {w wr : World} {b : Bool} {ys : List Value} {x : Value} (hown : wr.ownsRow B 26 1 (.slice (some ⟨B, 0, none⟩) (m + 1) (L + 1)) (m + 1) (ys ++ [x]))
    (hreps : Reps B wr N (ys ++ [x]) b) (hbel : Below B w wr) :
    Hid (Inv B L w ((wr.setCell ⟨B, m, none⟩ (.iface 41 (.pointer (some ⟨wr.heap.size, 0, none⟩)))).alloc (.cells #[.string ⟨#[78, 79, 84]⟩, x] 43)) (m + 1) (b || false)) := by
  have hlt := Inv.lt hown
  rw [Bool.or_false]
  have hl : ys.length = m := by have := hown.1; simp at this; omega
  refine inv_node ((owns_put _ hown hl (by omega)).alloc _) hreps ((Keeps.set B wr m _).trans (Keeps.alloc B _ _)) ?_ ((hbel.setCell (Nat.le_refl _) _).alloc (by simp; omega) _)
  intro bz hz
  exact .inr (.inr (.inr (.inr (.inr (.inl ⟨_, x, rfl, by omega, by rw [World.cell?_alloc_at _ _ _ _ (by simp)]; rfl, Reps.one.1 hz⟩)))))

theorem inv_isnull {B L m N : Nat} {w wr : World} {b : Bool} {ys : List Value} {x : Value} (hown : wr.ownsRow B 26 1 (.slice (some ⟨B, 0, none⟩) (m + 1) (L + 1)) (m + 1) (ys ++ [x]))
    (hreps : Reps B wr N (ys ++ [x]) b) (hbel : Below B w wr) :
    Hid (Inv B L w ((wr.setCell ⟨B, m, none⟩ (.iface 47 (.pointer (some ⟨wr.heap.size, 0, none⟩)))).alloc (.cells #[x, .bool false] 49)) (m + 1) (b || false)) := by
  have hlt := Inv.lt hown
  rw [Bool.or_false]
  have hl : ys.length = m := by have := hown.1; simp at this; omega
  refine inv_node ((owns_put _ hown hl (by omega)).alloc _) hreps ((Keeps.set B wr m _).trans (Keeps.alloc B _ _)) ?_ ((hbel.setCell (Nat.le_refl _) _).alloc (by simp; omega) _)
  intro bz hz
  exact .inr (.inr (.inr (.inr (.inr (.inr (.inr (.inl ⟨_, x, rfl, by omega, by rw [World.cell?_alloc_at _ _ _ _ (by simp)]; rfl, Reps.one.1 hz⟩)))))))

theorem Inv.drew {B L n : Nat} {w wr : World} {b : Bool} (h : Inv B L w wr n b) : Inv B L w wr.drew n b := by
  obtain ⟨xs, N, h1, h2, h3⟩ := h
  exact ⟨xs, N, h1.drew, Reps.world (w := wr) (w' := wr.drew) (fun _ _ _ h => h) h2, h3.drew⟩

theorem Reps.two {B : Nat} {w : World} {N : Nat} {x y : Value} {b : Bool} (h : Reps B w N [x, y] b) : ∃ bx byy, Rep B w N x bx ∧ Rep B w N y byy ∧ b = (bx || byy) := by
  obtain ⟨b1, b2, h1, h2, e⟩ := h
  exact ⟨b1, b2, h1, Reps.one.1 h2, e⟩

theorem Reps.three {B : Nat} {w : World} {N : Nat} {x y z : Value} {b : Bool} (h : Reps B w N [x, y, z] b) : ∃ bx byy bz, Rep B w N x bx ∧ Rep B w N y byy ∧ Rep B w N z bz ∧ b = (bx || byy || bz) := by
  obtain ⟨b1, b2, h1, h2, e⟩ := h
  obtain ⟨c1, c2, k1, k2, e2⟩ := Reps.two h2
  subst e e2
  exact ⟨b1, c1, c2, h1, k1, k2, by rw [Bool.or_assoc]⟩

/-- '+'. -/
theorem inv_binary {B L m N : Nat} {w wr : World} {b : Bool} {ys : List Value} {x y : Value} (hown : wr.ownsRow B 26 1 (.slice (some ⟨B, 0, none⟩) (m + 2) (L + 1)) (m + 2) (ys ++ [x, y]))
    (hreps : Reps B wr N (ys ++ [x, y]) b) (hbel : Below B w wr) :
    Hid (Inv B L w ((wr.setCell ⟨B, m, none⟩ (.iface 44 (.pointer (some ⟨wr.heap.size, 0, none⟩)))).alloc (.cells #[.string ⟨#[43]⟩, x, y] 46)).drew (m + 1) (b || false)) := by
  have hlt := Inv.lt hown
  rw [Bool.or_false]
  have hl : ys.length = m := by have := hown.1; simp at this; omega
  refine Inv.drew (inv_node ((owns_put _ hown hl (by omega)).alloc _) hreps ((Keeps.set B wr m _).trans (Keeps.alloc B _ _)) ?_ ((hbel.setCell (Nat.le_refl _) _).alloc (by simp; omega) _))
  intro bz hz
  obtain ⟨bx, byy, hx, hy, rfl⟩ := hz.two
  exact .inr (.inr (.inr (.inr (.inr (.inr (.inl ⟨_, x, y, bx, byy, rfl, by omega, by rw [World.cell?_alloc_at _ _ _ _ (by simp)]; rfl, by rw [World.cell?_alloc_at _ _ _ _ (by simp)]; rfl, hx, hy, rfl⟩))))))

/-- BETWEEN. -/
theorem inv_between {B L m N : Nat} {w wr : World} {b : Bool} {ys : List Value} {x y z : Value} (hown : wr.ownsRow B 26 1 (.slice (some ⟨B, 0, none⟩) (m + 3) (L + 1)) (m + 3) (ys ++ [x, y, z]))
    (hreps : Reps B wr N (ys ++ [x, y, z]) b) (hbel : Below B w wr) :
    Hid (Inv B L w ((wr.setCell ⟨B, m, none⟩ (.iface 53 (.pointer (some ⟨wr.heap.size, 0, none⟩)))).alloc (.cells #[x, y, z, .bool false] 55)).drew (m + 1) (b || false)) := by
  have hlt := Inv.lt hown
  rw [Bool.or_false]
  have hl : ys.length = m := by have := hown.1; simp at this; omega
  refine Inv.drew (inv_node ((owns_put _ hown hl (by omega)).alloc _) hreps ((Keeps.set B wr m _).trans (Keeps.alloc B _ _)) ?_ ((hbel.setCell (Nat.le_refl _) _).alloc (by simp; omega) _))
  intro bz hz
  obtain ⟨bx, byy, bzz, hx, hy, hzz, rfl⟩ := hz.three
  exact .inr (.inr (.inr (.inr (.inr (.inr (.inr (.inr (.inr ⟨_, x, y, z, bx, byy, bzz, rfl, by omega, by rw [World.cell?_alloc_at _ _ _ _ (by simp)]; rfl, by rw [World.cell?_alloc_at _ _ _ _ (by simp)]; rfl, by rw [World.cell?_alloc_at _ _ _ _ (by simp)]; rfl, hx, hy, hzz, rfl⟩))))))))

theorem Keeps.below {B : Nat} {w w' : World} (h : Below w.heap.size w w') : Keeps B w w' := fun _ _ _ hx => cell_later h hx

/-- The cells of a list that was copied. -/
theorem kids {w3 : World} {g : Nat} {t : TypeId} {cur ys : List Value} (hg : w3.heap[g]? = some (.cells (splice cur 0 ys).toArray t (0, 0))) : ∀ i v, ys[i]? = some v → w3.cell? ⟨g, i, none⟩ = some v := by
  intro i v hi
  have hlt : i < ys.length := (List.getElem?_eq_some_iff.1 hi).1
  simp [World.cell?, hg, splice, List.getElem?_append, hlt]
  simpa [hlt] using hi

/-- In: the top IN the rest. -/
theorem inv_in {B L m N : Nat} {w wr w3 : World} {b : Bool} {ys cur : List Value} {x : Value} (hown : wr.ownsRow B 26 1 (.slice (some ⟨B, 0, none⟩) (m + 1) (L + 1)) (m + 1) (ys ++ [x]))
    (hreps : Reps B wr N (ys ++ [x]) b) (hbel : Below B w wr) (hb3 : Below wr.heap.size wr w3) (hsz : wr.heap.size < w3.heap.size)
    (hg : w3.heap[wr.heap.size]? = some (.cells (splice cur 0 ys).toArray 26 (0, 0))) (hm : m ≤ 1000000) :
    Hid (Inv B L w ((w3.setCell ⟨B, 0, none⟩ (.iface 50 (.pointer (some ⟨w3.heap.size, 0, none⟩)))).alloc (.cells #[x, .slice (some ⟨wr.heap.size, 0, none⟩) m m, .bool false] 52)) 1 (b || false)) := by
  have hlt := Inv.lt hown
  rw [Bool.or_false]
  have hl : ys.length = m := by have := hown.1; simp at this; omega
  have hown3 : w3.ownsRow B 26 1 (.slice (some ⟨B, 0, none⟩) (m + 1) (L + 1)) (m + 1) ([] ++ (ys ++ [x])) := hown.kept (row := none) ⟨hb3.os, hb3.tape, hb3.output, hb3.size, fun k hk _ => hb3.block k hk⟩ (.inr (by simp [Value.ownBlock]))
  have hk3 : Keeps B wr w3 := Keeps.below hb3
  have hk4 : Keeps B w3 ((w3.setCell ⟨B, 0, none⟩ (.iface 50 (.pointer (some ⟨w3.heap.size, 0, none⟩)))).alloc (.cells #[x, .slice (some ⟨wr.heap.size, 0, none⟩) m m, .bool false] 52)) := (Keeps.set B w3 0 _).trans (Keeps.alloc B _ _)
  refine inv_node (ys := []) (zs := ys ++ [x]) ((owns_put (m := 0) _ hown3 rfl (by omega)).alloc _) hreps (hk3.trans hk4) ?_ (((hbel.trans (hb3.mono (by omega))).setCell (Nat.le_refl _) _).alloc (by simp; omega) _)
  intro bz hz
  obtain ⟨bl, bx, hys, hx, rfl⟩ := hz.split
  obtain ⟨D, hD, eD⟩ := hys.idx
  refine .inr (.inr (.inr (.inr (.inr (.inr (.inr (.inr (.inl ⟨_, wr.heap.size, m, x, bx, fun i => ys.getD i .nilIface, D, rfl, by omega, by omega, hm, by rw [World.cell?_alloc_at _ _ _ _ (by simp)]; rfl, Reps.one.1 hx, by rw [World.cell?_alloc_at _ _ _ _ (by simp)]; rfl, ?_, by rw [eD, hl, Bool.or_comm]⟩))))))))
  intro i hi
  have hv : ys[i]? = some (ys.getD i .nilIface) := by simp [List.getD, show i < ys.length by omega]
  exact ⟨hk4 _ _ (by simp; omega) (kids hg i _ hv), hD i _ hv⟩

/-- A call over a list that was copied. -/
theorem rep_call {B m N : Nat} {W w3 : World} {b : Bool} {ys cur : List Value} {g a : Nat} (hga : g ≠ B) (haB : a ≠ B) (hys : Reps B W N ys b) (hl : ys.length = m) (hm : m ≤ 1000000)
    (hg : w3.heap[g]? = some (.cells (splice cur 0 ys).toArray 26 (0, 0))) (hk : Keeps B w3 W) (ha : W.cell? ⟨a, 1, none⟩ = some (.slice (some ⟨g, 0, none⟩) m m)) : Rep B W (N + 1) (.iface 36 (.pointer (some ⟨a, 0, none⟩))) b := by
  obtain ⟨D, hD, eD⟩ := hys.idx
  refine .inr (.inr (.inr (.inr (.inl ⟨a, g, m, fun i => ys.getD i .nilIface, D, rfl, haB, hga, hm, ha, ?_, by rw [eD, hl]⟩))))
  intro i hi
  have hv : ys[i]? = some (ys.getD i .nilIface) := by simp [List.getD, show i < ys.length by omega]
  exact ⟨hk _ _ (by simpa using hga) (kids hg i _ hv), hD i _ hv⟩

theorem made_heap (w : World) (m : Nat) : (w.alloc (.cells (madeCells #[.nilIface] m) 26)).heap[w.heap.size]? = some (.cells (List.replicate m Value.nilIface).toArray 26 (0, 0)) := by
  rw [heap_alloc_new, ← toList_madeCells_one]

theorem size26 : (Try.prog.info? 26).map (·.size) = some 1 := by kernel_rfl

theorem Reps.oneCell {B : Nat} {w : World} {N : Nat} {xs : List Value} {b : Bool} (h : Reps B w N xs b) : ∀ v ∈ xs, v.oneCell' = true := by
  intro v hv
  obtain ⟨t, p, rfl⟩ := h.iface v hv
  rfl

theorem lt_of_heap {w : World} {g : Nat} {o : Obj} (h : w.heap[g]? = some o) : g < w.heap.size := (Array.getElem?_eq_some_iff.1 h).1

theorem owns_first {w : World} {B L n : Nat} {xs : List Value} (h : w.ownsRow B 26 1 (.slice (some ⟨B, 0, none⟩) n L) n xs) (hn : 1 ≤ n) : ∃ v, w.cell? ⟨B, 0, none⟩ = some v := by
  rw [h.cellAt 0 (by omega)]
  have := h.1
  exact ⟨xs[0], List.getElem?_eq_getElem (by omega)⟩

theorem owns_below {wr w3 : World} {B L n : Nat} {xs : List Value} (h : wr.ownsRow B 26 1 (.slice (some ⟨B, 0, none⟩) n L) n xs) (hb3 : Below wr.heap.size wr w3) : w3.ownsRow B 26 1 (.slice (some ⟨B, 0, none⟩) n L) n xs :=
  h.kept (row := none) ⟨hb3.os, hb3.tape, hb3.output, hb3.size, fun k hk _ => hb3.block k hk⟩ (.inr (by simp [Value.ownBlock]))

/-- A call over the whole stack. -/
theorem inv_call {B L n N : Nat} {w wr w3 w4 : World} {b : Bool} {xs cur : List Value} {o2 : Obj} (hown : wr.ownsRow B 26 1 (.slice (some ⟨B, 0, none⟩) n (L + 1)) n xs)
    (hreps : Reps B wr N xs b) (hbel : Below B w wr) (hb3 : Below wr.heap.size wr w3) (hsz : wr.heap.size < w3.heap.size)
    (hg : w3.heap[wr.heap.size]? = some (.cells (splice cur 0 xs).toArray 26 (0, 0))) (hn : n ≤ 1000000)
    (hown4 : w4.ownsRow B 26 1 (.slice (some ⟨B, 0, none⟩) 1 (L + 1)) 1 [.iface 36 (.pointer (some ⟨w3.heap.size, 0, none⟩))])
    (hgrow : ((w3.alloc (.cells #[.string ⟨#[67, 79, 85, 78, 84]⟩, .slice (some ⟨wr.heap.size, 0, none⟩) n n] 40)).alloc o2).grownBy w4 (some B)) : Hid (Inv B L w w4 1 (b || false)) := by
  have hlt := Inv.lt hown
  rw [Bool.or_false]
  have hl : xs.length = n := by have := hown.1; omega
  have hk4 : Keeps B w3 w4 := ((Keeps.alloc B _ _).trans (Keeps.alloc B _ _)).trans (Keeps.grown hgrow)
  have hk : Keeps B wr w4 := (Keeps.below hb3).trans hk4
  refine inv_node (ys := []) (m := 0) hown4 (zs := xs) hreps hk ?_ ?_
  · intro bz hz
    refine rep_call (g := wr.heap.size) (a := w3.heap.size) (by omega) (by omega) hz hl hn hg hk4 ?_
    refine Keeps.grown hgrow _ _ (by simp; omega) ?_
    rw [World.cell?_alloc_lt _ _ _ (by simp), World.cell?_alloc_at _ _ _ _ rfl]
    rfl
  · refine (((hbel.trans (hb3.mono (by omega))).alloc (by omega) _).alloc (by simp; omega) _).grown hgrow (by simp; omega) ?_
    intro k hk
    cases hk
    exact Nat.le_refl _

/-- At the end: a call over what stands. -/
theorem end_call {B L n N : Nat} {wr w3 : World} {b : Bool} {xs cur : List Value} (hown : wr.ownsRow B 26 1 (.slice (some ⟨B, 0, none⟩) n (L + 1)) n xs)
    (hreps : Reps B wr N xs b) (hb3 : Below wr.heap.size wr w3) (hsz : wr.heap.size < w3.heap.size)
    (hg : w3.heap[wr.heap.size]? = some (.cells (splice cur 0 xs).toArray 26 (0, 0))) (hn : n ≤ 1000000) :
    Rep B (w3.alloc (.cells #[.string ⟨#[67, 79, 85, 78, 84]⟩, .slice (some ⟨wr.heap.size, 0, none⟩) n n] 40)) (N + 1) (.iface 36 (.pointer (some ⟨w3.heap.size, 0, none⟩))) b := by
  have hlt := Inv.lt hown
  have hl : xs.length = n := by have := hown.1; omega
  have hk4 := Keeps.alloc B w3 (.cells #[.string ⟨#[67, 79, 85, 78, 84]⟩, .slice (some ⟨wr.heap.size, 0, none⟩) n n] 40)
  have hk : Keeps B wr _ := (Keeps.below hb3).trans hk4
  refine rep_call (g := wr.heap.size) (a := w3.heap.size) (by omega) (by omega) (hreps.world hk) hl hn hg hk4 ?_
  rw [World.cell?_alloc_at _ _ _ _ rfl]
  rfl

theorem end_below {B L n : Nat} {w wr w3 : World} {xs : List Value} {o : Obj} (hown : wr.ownsRow B 26 1 (.slice (some ⟨B, 0, none⟩) n (L + 1)) n xs) (hbel : Below B w wr) (hb3 : Below wr.heap.size wr w3) : Below B w (w3.alloc o) := by
  have hlt := Inv.lt hown
  have := hb3.size
  exact (hbel.trans (hb3.mono (by omega))).alloc (by omega) _

/-- A tree is pushed. -/
theorem inv_push {B L n N : Nat} {w wr w2 : World} {b bx : Bool} {xs : List Value} {x : Value} {o1 o2 : Obj}
    (hown2 : w2.ownsRow B 26 1 (.slice (some ⟨B, 0, none⟩) (n + 1) (L + 1)) (n + 1) (xs ++ [x])) (hgrow2 : ((wr.alloc o1).alloc o2).grownBy w2 (some B))
    (hreps : Reps B wr N xs b) (hx : Rep B w2 (N + 1) x bx) (hbel : Below B w wr) (hB : B < wr.heap.size) : Inv B L w w2 (n + 1) (b || bx) := by
  have hk : Keeps B wr w2 := ((Keeps.alloc B wr o1).trans (Keeps.alloc B _ o2)).trans (Keeps.grown hgrow2)
  refine ⟨_, N + 1, hown2, (hreps.world hk).up.app (Reps.one.2 hx), ?_⟩
  refine ((hbel.alloc (by omega) o1).alloc (by simp; omega) o2).grown hgrow2 (by simp; omega) ?_
  intro k hk
  cases hk
  exact Nat.le_refl _

end Go.Proofs.Qxb6614207a
