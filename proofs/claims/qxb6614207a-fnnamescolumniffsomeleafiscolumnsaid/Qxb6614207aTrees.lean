import Derived.Test.Qxb6614207aCols
namespace Go.Proofs.Qxb6614207a
open Go.RowKit

/-- A tree stays a tree in a world that keeps the cells outside B. -/
theorem Rep.world {B : Nat} {w w' : World} (h : ∀ a x, a.block ≠ B → w.cell? a = some x → w'.cell? a = some x) : ∀ (n : Nat) (v : Value) (b : Bool), Rep B w n v b → Rep B w' n v b := by
  intro n
  induction n with
  | zero => intro v b hr; exact hr.elim
  | succ n ih =>
    intro v b hr
    rcases hr with hr | hr | hr | hr | ⟨a, c, m, V, D, rfl, ha, hcB, hm, h1, hk, rfl⟩ | ⟨a, x, rfl, ha, h1, hx⟩ | ⟨a, x, y, bx, byy, rfl, ha, h1, h2, hx, hy, rfl⟩ | ⟨a, x, rfl, ha, h1, hx⟩ | ⟨a, c, m, x, bx, V, D, rfl, ha, hcB, hm, h0, hx, h1, hk, rfl⟩ | ⟨a, x, y, z, bx, byy, bz, rfl, ha, h0, h1, h2, hx, hy, hz, rfl⟩
    · exact .inl hr
    · exact .inr (.inl hr)
    · exact .inr (.inr (.inl hr))
    · exact .inr (.inr (.inr (.inl hr)))
    · exact .inr (.inr (.inr (.inr (.inl ⟨a, c, m, V, D, rfl, ha, hcB, hm, h _ _ ha h1, fun i hi => ⟨h _ _ hcB (hk i hi).1, ih _ _ (hk i hi).2⟩, rfl⟩))))
    · exact .inr (.inr (.inr (.inr (.inr (.inl ⟨a, x, rfl, ha, h _ _ ha h1, ih _ _ hx⟩)))))
    · exact .inr (.inr (.inr (.inr (.inr (.inr (.inl ⟨a, x, y, bx, byy, rfl, ha, h _ _ ha h1, h _ _ ha h2, ih _ _ hx, ih _ _ hy, rfl⟩))))))
    · exact .inr (.inr (.inr (.inr (.inr (.inr (.inr (.inl ⟨a, x, rfl, ha, h _ _ ha h1, ih _ _ hx⟩)))))))
    · exact .inr (.inr (.inr (.inr (.inr (.inr (.inr (.inr (.inl ⟨a, c, m, x, bx, V, D, rfl, ha, hcB, hm, h _ _ ha h0, ih _ _ hx, h _ _ ha h1, fun i hi => ⟨h _ _ hcB (hk i hi).1, ih _ _ (hk i hi).2⟩, rfl⟩))))))))
    · exact .inr (.inr (.inr (.inr (.inr (.inr (.inr (.inr (.inr ⟨a, x, y, z, bx, byy, bz, rfl, ha, h _ _ ha h0, h _ _ ha h1, h _ _ ha h2, ih _ _ hx, ih _ _ hy, ih _ _ hz, rfl⟩))))))))

/-- One level more does no harm. -/
theorem Rep.up {B : Nat} {w : World} : ∀ (n : Nat) (v : Value) (b : Bool), Rep B w n v b → Rep B w (n + 1) v b := by
  intro n
  induction n with
  | zero => intro v b hr; exact hr.elim
  | succ n ih =>
    intro v b hr
    rcases hr with hr | hr | hr | hr | ⟨a, c, m, V, D, rfl, ha, hcB, hm, h1, hk, rfl⟩ | ⟨a, x, rfl, ha, h1, hx⟩ | ⟨a, x, y, bx, byy, rfl, ha, h1, h2, hx, hy, rfl⟩ | ⟨a, x, rfl, ha, h1, hx⟩ | ⟨a, c, m, x, bx, V, D, rfl, ha, hcB, hm, h0, hx, h1, hk, rfl⟩ | ⟨a, x, y, z, bx, byy, bz, rfl, ha, h0, h1, h2, hx, hy, hz, rfl⟩
    · exact .inl hr
    · exact .inr (.inl hr)
    · exact .inr (.inr (.inl hr))
    · exact .inr (.inr (.inr (.inl hr)))
    · exact .inr (.inr (.inr (.inr (.inl ⟨a, c, m, V, D, rfl, ha, hcB, hm, h1, fun i hi => ⟨(hk i hi).1, ih _ _ (hk i hi).2⟩, rfl⟩))))
    · exact .inr (.inr (.inr (.inr (.inr (.inl ⟨a, x, rfl, ha, h1, ih _ _ hx⟩)))))
    · exact .inr (.inr (.inr (.inr (.inr (.inr (.inl ⟨a, x, y, bx, byy, rfl, ha, h1, h2, ih _ _ hx, ih _ _ hy, rfl⟩))))))
    · exact .inr (.inr (.inr (.inr (.inr (.inr (.inr (.inl ⟨a, x, rfl, ha, h1, ih _ _ hx⟩)))))))
    · exact .inr (.inr (.inr (.inr (.inr (.inr (.inr (.inr (.inl ⟨a, c, m, x, bx, V, D, rfl, ha, hcB, hm, h0, ih _ _ hx, h1, fun i hi => ⟨(hk i hi).1, ih _ _ (hk i hi).2⟩, rfl⟩))))))))
    · exact .inr (.inr (.inr (.inr (.inr (.inr (.inr (.inr (.inr ⟨a, x, y, z, bx, byy, bz, rfl, ha, h0, h1, h2, ih _ _ hx, ih _ _ hy, ih _ _ hz, rfl⟩))))))))

/-- The trees of a list, and whether one of them names a column. -/
def Reps (B : Nat) (w : World) (N : Nat) : List Value → Bool → Prop
  | [], b => b = false
  | x :: xs, b => ∃ bx bs, Rep B w N x bx ∧ Reps B w N xs bs ∧ b = (bx || bs)

theorem Reps.app {B : Nat} {w : World} {N : Nat} : ∀ {xs ys : List Value} {bx bb : Bool}, Reps B w N xs bx → Reps B w N ys bb → Reps B w N (xs ++ ys) (bx || bb)
  | [], ys, bx, bb, h, k => by
    have e : bx = false := h
    subst e
    simpa using k
  | x :: xs, ys, bx, bb, ⟨b1, b2, h1, h2, e⟩, k => by
    subst e
    exact ⟨b1, b2 || bb, h1, Reps.app h2 k, by rw [Bool.or_assoc]⟩

theorem Reps.split {B : Nat} {w : World} {N : Nat} : ∀ {xs ys : List Value} {b : Bool}, Reps B w N (xs ++ ys) b → ∃ bx bb, Reps B w N xs bx ∧ Reps B w N ys bb ∧ b = (bx || bb)
  | [], ys, b, h => ⟨false, b, rfl, h, by simp⟩
  | x :: xs, ys, b, ⟨b1, b2, h1, h2, e⟩ => by
    obtain ⟨c1, c2, k1, k2, e2⟩ := Reps.split h2
    subst e e2
    exact ⟨b1 || c1, c2, ⟨b1, c1, h1, k1, rfl⟩, k2, by rw [Bool.or_assoc]⟩

theorem Reps.one {B : Nat} {w : World} {N : Nat} {x : Value} {b : Bool} : Reps B w N [x] b ↔ Rep B w N x b := by
  constructor
  · rintro ⟨b1, b2, h1, h2, e⟩
    have e2 : b2 = false := h2
    subst e e2
    simpa using h1
  · intro h
    exact ⟨b, false, h, rfl, by simp⟩

theorem Reps.world {B : Nat} {w w' : World} (h : ∀ a x, a.block ≠ B → w.cell? a = some x → w'.cell? a = some x) {N : Nat} : ∀ {xs : List Value} {b : Bool}, Reps B w N xs b → Reps B w' N xs b
  | [], _, k => k
  | _ :: _, _, ⟨b1, b2, h1, h2, e⟩ => ⟨b1, b2, Rep.world h _ _ _ h1, Reps.world h h2, e⟩

theorem Reps.up {B : Nat} {w : World} {N : Nat} : ∀ {xs : List Value} {b : Bool}, Reps B w N xs b → Reps B w (N + 1) xs b
  | [], _, k => k
  | _ :: _, _, ⟨b1, b2, h1, h2, e⟩ => ⟨b1, b2, Rep.up _ _ _ h1, Reps.up h2, e⟩

/-- By index. -/
theorem Reps.idx {B : Nat} {w : World} {N : Nat} : ∀ {xs : List Value} {b : Bool}, Reps B w N xs b → ∃ D : Nat → Bool, (∀ i v, xs[i]? = some v → Rep B w N v (D i)) ∧ b = anyB D xs.length
  | [], b, h => ⟨fun _ => false, fun i v hi => by simp at hi, by have e : b = false := h; rw [e]; rfl⟩
  | x :: xs, b, ⟨b1, b2, h1, h2, e⟩ => by
    obtain ⟨D, hD, eD⟩ := Reps.idx h2
    refine ⟨fun i => if i = 0 then b1 else D (i - 1), ?_, ?_⟩
    · intro i v hi
      cases i with
      | zero => simp at hi; subst hi; simpa using h1
      | succ i => simp at hi; simpa using hD i v hi
    · rw [e, eD]
      simp only [anyB, List.length_cons, List.range_succ_eq_map, List.any_cons, List.any_map]
      congr 1

end Go.Proofs.Qxb6614207a
