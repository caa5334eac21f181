import Derived.Test.Qxb6614338aProg
import Derived.WalkKit
import Derived.WalkSpells
import Derived.WalkLawsBesides
import Derived.Laws.CopyOwn
import Derived.Deep.OwnRows
namespace Go.Proofs.Qxb6614338a
open Go.RowKit

theorem hid {p : Prop} (h : p) : Hid p := h

theorem Try.info21 : (Try.prog.info? 21).map (fun i => (i.zero, i.size, i.bytes)) = some (some (.int .i32 0), 1, 4) := by kernel_rfl
theorem Try.info5 : (Try.prog.info? 5).map (fun i => (i.zero, i.size, i.bytes)) = some (some (.int .u8 0), 1, 1) := by kernel_rfl
theorem size21 : (Try.prog.info? 21).map (·.size) = some 1 := by kernel_rfl
theorem size5 : (Try.prog.info? 5).map (·.size) = some 1 := by kernel_rfl

/-- A slice of integers, as far as it is read. -/
def RowI (k : IntKind) (w : World) (a : Option Addr) (l : Nat) (Z : Nat → Int) : Prop :=
  ∀ i, i < l → ∃ b off, a = some ⟨b, off, none⟩ ∧ w.cell? ⟨b, off + i, none⟩ = some (.int k (Z i))

theorem RowI.later {k : IntKind} {w w' : World} {a : Option Addr} {l : Nat} {Z : Nat → Int} (h : RowI k w a l Z) (hb : Below w.heap.size w w') : RowI k w' a l Z := by
  intro i hi
  obtain ⟨b, off, e, hc⟩ := h i hi
  exact ⟨b, off, e, cell_later hb hc⟩

theorem RowI.void {k : IntKind} {w : World} {a : Option Addr} {l : Nat} {Z : Nat → Int} (h : l = 0) : RowI k w a l Z := by
  intro i hi
  omega

theorem RowI.of {k : IntKind} {w : World} {x : Addr} {len cap : Nat} {zs : List Int} (hl : len ≤ cap) (hz : zs.length = cap) (h : ∀ i, i < zs.length → w.cell? (x.add i) = some (.int k (zs.getD i 0))) : RowI k w (some x) len (fun i => zs.getD i 0) := by
  intro i hi
  have h0 := h 0 (by omega)
  obtain ⟨b, off, spot⟩ := x
  cases spot with
  | none => exact ⟨b, off, rfl, by have := h i (by omega); rwa [Addr.add_lit] at this⟩
  | some q =>
    simp only [Addr.add, if_true] at h0
    simp only [World.cell?] at h0
    split at h0 <;> simp at h0

/-- The integers of a row, as cells. -/
def cellsOf (k : IntKind) (l : Nat) (Z : Nat → Int) : List Value := (List.range l).map fun i => .int k (Z i)

theorem length_cellsOf (k : IntKind) (l : Nat) (Z : Nat → Int) : (cellsOf k l Z).length = l := by simp [cellsOf]

theorem get_cellsOf {k : IntKind} {l : Nat} {Z : Nat → Int} {j : Nat} {v : Value} (h : (cellsOf k l Z)[j]? = some v) : j < l ∧ v = .int k (Z j) := by
  have hj : j < l := by have := (List.getElem?_eq_some_iff.1 h).1; rwa [length_cellsOf] at this
  simp [cellsOf, hj] at h
  exact ⟨hj, h.symm⟩

theorem one_cellsOf (k : IntKind) (l : Nat) (Z : Nat → Int) : ∀ v ∈ cellsOf k l Z, v.oneCell' = true := by
  intro v hv
  simp only [cellsOf, List.mem_map] at hv
  obtain ⟨i, _, rfl⟩ := hv
  rfl

theorem RowI.src {k : IntKind} {w : World} {a : Option Addr} {l : Nat} {Z : Nat → Int} (h : RowI k w a l Z) (o : Obj) (hl : 0 < (cellsOf k l Z).length) : ∃ ad, a = some ad ∧ ∀ j v, (cellsOf k l Z)[j]? = some v → (w.alloc o).cell? (ad.add j) = some v := by
  rw [length_cellsOf] at hl
  obtain ⟨b, off, rfl, _⟩ := h 0 hl
  refine ⟨_, rfl, fun j v hj => ?_⟩
  obtain ⟨hjl, rfl⟩ := get_cellsOf hj
  obtain ⟨b', off', e, hc⟩ := h j hjl
  cases e
  rw [Addr.add_lit]
  exact cell_later ((Below.refl _ _).alloc (Nat.le_refl _) _) hc

theorem made_heap (w : World) (z : Value) (t : TypeId) (m : Nat) : (w.alloc (.cells (madeCells #[z] m) t)).heap[w.heap.size]? = some (.cells (List.replicate m z).toArray t (0, 0)) := by
  rw [heap_alloc_new, ← toList_madeCells_one]

/-- What a copy has laid. -/
theorem RowI.copied {k : IntKind} {w : World} {g l : Nat} {t : TypeId} {cur : List Value} {Z : Nat → Int} (h : w.heap[g]? = some (.cells (splice cur 0 (cellsOf k l Z)).toArray t (0, 0))) : RowI k w (some ⟨g, 0, none⟩) l Z := by
  intro i hi
  refine ⟨g, 0, rfl, ?_⟩
  have hv : (cellsOf k l Z)[i]? = some (.int k (Z i)) := by simp [cellsOf, hi]
  simp [World.cell?, h, splice, List.getElem?_append, length_cellsOf, hi]
  simpa [length_cellsOf, hi] using hv

theorem bytes_yes (a0 a1 a2 a3 a4 : Option Addr) (l0 l1 l2 l3 l4 c0 c1 c2 c3 c4 : Nat) (w : World) (h : l0 + l1 + l2 + l3 + l4 ≤ 1048576) :
    Calls Try.prog 4 #[.slice a0 l0 c0, .slice a1 l1 c1, .slice a2 l2 c2, .slice a3 l3 c3, .slice a4 l4 c4] w fun e w' => e = .returned (.bool true) ∧ w' = w := by
  go_enter Try.func4, Try.ntmps4
  go_wp2_with fail
  go_ret
  exact ⟨rfl, rfl⟩

theorem bytes_no (a0 a1 a2 a3 a4 : Option Addr) (l0 l1 l2 l3 l4 c0 c1 c2 c3 c4 : Nat) (w : World) (h : 1048576 < l0 + l1 + l2 + l3 + l4)
    (m0 : l0 ≤ maxLen) (m1 : l1 ≤ maxLen) (m2 : l2 ≤ maxLen) (m3 : l3 ≤ maxLen) (m4 : l4 ≤ maxLen) :
    Calls Try.prog 4 #[.slice a0 l0 c0, .slice a1 l1 c1, .slice a2 l2 c2, .slice a3 l3 c3, .slice a4 l4 c4] w fun e w' => e = .returned (.bool false) ∧ w' = w := by
  unfold maxLen at m0 m1 m2 m3 m4
  go_enter Try.func4, Try.ntmps4
  go_wp2_with fail
  all_goals
    go_ret
    exact ⟨rfl, rfl⟩

theorem graph_any (v0 v1 v2 : Option Addr) (l0 l1 l2 c0 c1 c2 : Nat) (w : World) :
    Calls Try.prog 6 #[.slice v0 l0 c0, .slice v1 l1 c1, .slice v2 l2 c2] w fun e w' => e = .returned (.pointer (some ⟨w.heap.size, 0, none⟩)) ∧ w' = w.alloc (.cells #[.slice v0 l0 c0, .slice v1 l1 c1, .slice v2 l2 c2] 30) := by
  go_enter Try.func6, Try.ntmps6
  go_wp2_with fail
  go_ret
  exact ⟨rfl, rfl⟩

theorem nodes_any (b : Nat) (v0 : Option Addr) (l0 c0 : Nat) (w : World) (hl : l0 ≤ 1000000) (hc : w.cell? ⟨b, 0, none⟩ = some (.slice v0 l0 c0)) :
    Calls Try.prog 5 #[.pointer (some ⟨b, 0, none⟩)] w fun e w' => e = .returned (.int .i64 ((l0 : Int) - 1)) ∧ w' = w := by
  go_enter Try.func5, Try.ntmps5
  go_wp2
  go_ret
  exact ⟨rfl, rfl⟩

end Go.Proofs.Qxb6614338a
