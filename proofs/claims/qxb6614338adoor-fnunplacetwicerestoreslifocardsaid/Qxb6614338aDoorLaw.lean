import Derived.Test.Qxb6614338aDoorOps6
namespace Go.Proofs.Qxb6614338aDoor
open Go.RowKit

/-- The links behind the placement of an operation: its call and its return are taken out. -/
def NN (N P : Nat → Nat) (i : Nat) : Nat → Nat := unlN (unlN N P (2 * i)) (unlP N P (2 * i)) (2 * i + 1)
def PP (N P : Nat → Nat) (i : Nat) : Nat → Nat := unlP (unlN N P (2 * i)) (unlP N P (2 * i)) (2 * i + 1)

theorem unlP_self (N P : Nat → Nat) (e : Nat) : unlP N P e e = P e := by
  unfold unlP upd
  split
  · rfl
  · rfl

theorem Lk.placed {h : Nat} {rk : Nat → Nat} {D : Nat → Prop} {N P : Nat → Nat} (L : Lk h rk D N P) (i : Nat) (hi : 2 * i + 1 < h) (d1 : ¬ D (2 * i)) (d2 : ¬ D (2 * i + 1)) : Lk h rk (fun x => (D x ∨ x = 2 * i) ∨ x = 2 * i + 1) (NN N P i) (PP N P i) :=
  (L.unlink (by omega) d1).unlink hi (fun q => q.elim d2 (by omega))

/-- What relink needs and gives, at a placement's two entries. -/
theorem Lk.relinks {h : Nat} {rk : Nat → Nat} {D : Nat → Prop} {N P : Nat → Nat} (L : Lk h rk D N P) (i : Nat) (hi : 2 * i + 1 < h) (d1 : ¬ D (2 * i)) (d2 : ¬ D (2 * i + 1)) :
    upd (NN N P i) (PP N P i (2 * i + 1)) (2 * i + 1) = unlN N P (2 * i) ∧ upd (PP N P i) (unlN N P (2 * i) (2 * i + 1)) (2 * i + 1) = unlP N P (2 * i) ∧
    upd (unlN N P (2 * i)) (unlP N P (2 * i) (2 * i)) (2 * i) = N ∧ upd (unlP N P (2 * i)) (N (2 * i)) (2 * i) = P ∧
    PP N P i (2 * i + 1) < h + 1 ∧ unlN N P (2 * i) (2 * i + 1) < h + 1 ∧ unlP N P (2 * i) (2 * i) < h + 1 ∧ N (2 * i) < h + 1 := by
  have L1 := L.unlink (e := 2 * i) (by omega) d1
  have d2' : ¬ (D (2 * i + 1) ∨ 2 * i + 1 = 2 * i) := fun q => q.elim d2 (by omega)
  refine ⟨relinkN L1 hi d2', relinkP L1 hi d2', relinkN L (by omega) d1, relinkP L (by omega) d1, ?_, ?_, ?_, ?_⟩
  · rw [PP, unlP_self]
    have := L1.ple (2 * i + 1) (by omega) d2'
    omega
  · have := L1.nle (2 * i + 1) (by omega) d2'
    omega
  · rw [unlP_self]
    have := L.ple (2 * i) (by omega) d1
    omega
  · have := L.nle (2 * i) (by omega) d1
    omega

theorem bump_back (f : Int) (t : Nat → Int) : bump 1 f (bump (-1) f t) = t := by
  funext v
  unfold bump
  split
  · unfold upd
    split
    · rename_i e; subst e; simp; omega
    · rfl
  · rfl

theorem bump_cnt (T : Nat → Int) (a n : Nat) (ha : a < n) (v : Nat) : bump (-1) (T a) (fun v : Nat => cnt T (fun _ => false) n v) v = cnt T (fun i => i == a) n v := by
  rw [cnt_place]
  unfold bump
  by_cases h : 0 ≤ T a
  · rw [if_pos h]
    unfold upd
    by_cases e : v = (T a).toNat
    · rw [if_pos e, if_pos ⟨ha, by omega⟩, e]
      dsimp only
      omega
    · rw [if_neg e, if_neg (fun q => e (by omega))]
      dsimp only
      omega
  · rw [if_neg h, if_neg (fun q => by omega)]
    omega

theorem bump_bound {d f : Int} {t : Nat → Int} {lo hi : Int} (hd : -1 ≤ d ∧ d ≤ 1) (h : ∀ j, lo ≤ t j ∧ t j ≤ hi) (j : Nat) : lo - 1 ≤ bump d f t j ∧ bump d f t j ≤ hi + 1 := by
  unfold bump
  split
  · unfold upd
    split
    · have := h f.toNat; omega
    · have := h j; omega
  · have := h j; omega

end Go.Proofs.Qxb6614338aDoor
