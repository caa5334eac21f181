import Derived.Test.Qxb6614338aDoorLaw
import Derived.BigGuardPart
namespace Go.Proofs.Qxb6614338aDoor
open Go.RowKit

/-- A function's text from its n-th statement on. -/
def dropS : Nat → Code → Code
  | 0, c => c
  | n + 1, .seq _ b => dropS n b
  | _ + 1, c => c
def headS : Code → Code
  | .seq a _ => a
  | c => c
def TAIL (f : Func) (n : Nat) : Code := dropS n (f.body.getD .skip)

/-- What the law says at its end. -/
def Good (w0 : World) : Ending → World → Prop := fun e w' => e = .returned (.bool true) ∧ Below w0.heap.size w0 w'

/-- What is known when the search has been made. -/
structure Fx (C : SC) (b : Nat) (w0 : World) (a c : Nat) (v0 va : Int) (S Wn : Nat → Int) (rk N0 P0 : Nat → Nat) (g3 g4 g7 g8 g10 g11 g12 g13 g14 : Nat) : Prop where
  n2 : 2 ≤ C.n
  n3 : C.n ≤ 65536
  nb : C.n ≤ 64 * C.nb
  nb2 : C.nb ≤ 100000
  m1 : C.m ≤ 65536
  hh : C.h = 2 * C.n + 1
  ha : a < C.n
  hc : c < C.n
  hac : a ≠ c
  v0 : 0 ≤ v0 ∧ v0 < 65536
  va : 0 ≤ va ∧ va < 65536
  bS : ∀ i, i < C.n → S i < (C.m : Int)
  bW : ∀ i, i < C.n → Wn i < (C.m : Int)
  lk : Lk (2 * C.n) rk (fun _ => False) N0 P0
  lim : C.lim = b + 1
  sep : ∀ g, g ∈ [g3, g4, g7, g8, g10, g11, g12, g13, g14] → g < C.lim ∧ g ∉ [b, C.gn, C.gp, C.gw, C.gt, C.gb]
  r3 : RI C.w0 g3 C.h (fun i => (N0 i : Int))
  r4 : RI C.w0 g4 C.h (fun i => (P0 i : Int))
  r7 : RI C.w0 g7 C.h (fun i => (NN N0 P0 a i : Int))
  r8 : RI C.w0 g8 C.h (fun i => (PP N0 P0 a i : Int))
  r10 : RB C.w0 g10 C.n (fun i => i == a)
  r11 : RI C.w0 g11 C.m (fun v => cnt Wn (fun _ => false) C.n v)
  r12 : RI C.w0 g12 C.m (fun v => cnt S (fun _ => false) C.n v)
  r13 : RI C.w0 g13 C.m (fun v => cnt Wn (fun i => i == a) C.n v)
  r14 : RI C.w0 g14 C.m (fun v => cnt S (fun i => i == a) C.n v)
  below : Below w0.heap.size w0 C.w0
  up : w0.heap.size ≤ C.lim ∧ ∀ g, g ∈ [b, C.gn, C.gp, C.gw, C.gt, C.gb] → w0.heap.size ≤ g

variable {C : SC} {b : Nat} {w0 wa : World} {a c : Nat} {v0 va : Int} {S Wn : Nat → Int} {rk N0 P0 : Nat → Nat} {g3 g4 g7 g8 g10 g11 g12 g13 g14 : Nat}

theorem Fx.good (F : Fx C b w0 a c v0 va S Wn rk N0 P0 g3 g4 g7 g8 g10 g11 g12 g13 g14) (k : KP C b wa) : Below w0.heap.size w0 wa :=
  ⟨k.os.trans F.below.os, k.tape.trans F.below.tape, k.output.trans F.below.output, Nat.le_trans F.below.size k.size, fun i hi => (k.block i (Nat.lt_of_lt_of_le hi F.up.1) fun q => by have := F.up.2 i q; omega).trans (F.below.block i hi)⟩

theorem Fx.kept (F : Fx C b w0 a c v0 va S Wn rk N0 P0 g3 g4 g7 g8 g10 g11 g12 g13 g14) (k : KP C b wa) {g : Nat} (hg : g ∈ [g3, g4, g7, g8, g10, g11, g12, g13, g14]) : wa.heap[g]? = C.w0.heap[g]? :=
  k.block g (F.sep g hg).1 (F.sep g hg).2


theorem InS.congr {nb : Nat} {B : Nat → Nat} {s s' : Nat → Bool} (h : InS nb B s) (e : ∀ j, s j = s' j) : InS nb B s' := fun i hi => (h i hi).trans (e i)

theorem inA (nb a : Nat) : InS nb (B1 a) (fun j => j == a) := ((InS.empty nb).add a).congr fun j => by simp

theorem inBack (nb a c : Nat) (hac : a ≠ c) : InS nb (remB (addB (B1 a) c) c) (fun j => j == a) := (((inA nb a).add c).remove c).congr fun j => by
  by_cases e : j = c
  · have e2 : (j == a) = false := beq_eq_false_iff_ne.2 (by omega)
    have e3 : (j == c) = true := beq_iff_eq.2 e
    show ((j == a || j == c) && !(j == c)) = (j == a)
    rw [e2, e3]
    rfl
  · have e3 : (j == c) = false := beq_eq_false_iff_ne.2 e
    show ((j == a || j == c) && !(j == c)) = (j == a)
    rw [e3]
    simp

theorem cnt_b (T : Nat → Int) (n : Nat) (hn : n ≤ 65536) (j : Nat) : 0 ≤ (fun v : Nat => cnt T (fun _ => false) n v) j ∧ (fun v : Nat => cnt T (fun _ => false) n v) j ≤ 65536 := by
  have := cnt_bound T (fun _ => false) n j
  dsimp only
  omega

theorem cnt_b2 (T : Nat → Int) (n : Nat) (hn : n ≤ 65536) (j : Nat) : -1000000 ≤ (fun v : Nat => cnt T (fun _ => false) n v) j ∧ (fun v : Nat => cnt T (fun _ => false) n v) j ≤ 1000000 := by
  have := cnt_bound T (fun _ => false) n j
  dsimp only
  omega

theorem unplaceA (F : Fx C b w0 a c v0 va S Wn rk N0 P0 g3 g4 g7 g8 g10 g11 g12 g13 g14) {B : Nat → Nat} {g cap : Nat} {fa : Bool} (hB : InS C.nb B (fun j => j == a))
    (h : St C b wa (NN N0 P0 a) (PP N0 P0 a) S Wn (bump (-1) (Wn a) (fun v : Nat => cnt Wn (fun _ => false) C.n v)) (bump (-1) (S a) (fun v : Nat => cnt S (fun _ => false) C.n v)) B (firstA a) (a : Int) va (.slice (some ⟨g, 0, none⟩) 1 cap) 1 (pl (a : Int) v0 (-1) 0 fa)) :
    Calls Tryd.prog 18 #[.pointer (some ⟨b, 0, none⟩)] wa fun r w' => r = .returned (.tuple (pl (a : Int) v0 (-1) 0 fa).toArray) ∧ St C b w' N0 P0 S Wn (fun v : Nat => cnt Wn (fun _ => false) C.n v) (fun v : Nat => cnt S (fun _ => false) C.n v) (remB B a) 0 (-1) v0 (.slice (some ⟨g, 0, none⟩) 0 cap) 0 [] := by
  refine zunplace _ _ _ _ _ (fun w o q hw => (hw.alloc o).drewN q) ?_
  have n3 := F.n3
  have hh := F.hh
  have ha := F.ha
  have nb := F.nb
  have m1 := F.m1
  have nb2 := F.nb2
  have hv := F.v0
  obtain ⟨k1, k2, k3, k4, k5, k6, k7, k8⟩ := F.lk.relinks a (by omega) (fun q => q) (fun q => q)
  have := unplace_one a v0 (-1) fa g cap (unlN N0 P0 (2 * a)) (unlP N0 P0 (2 * a)) N0 P0 (-1) (fun _ => false) h ha (by omega) (by omega) nb nb2 (by omega) (by omega) (by omega) k1 k2 k3 k4 (by omega) (by omega) (by omega) (by omega) (F.bW a ha) (F.bS a ha)
    (fun j => by have := bump_bound (d := -1) (f := Wn a) (by omega) (cnt_b Wn C.n n3) j; omega) (fun j => by have := bump_bound (d := -1) (f := S a) (by omega) (cnt_b S C.n n3) j; omega)
    ((hB.remove a).congr fun j => by simp) (by omega) (by omega) (by omega) (fun _ _ _ => rfl) (fun j hj => by omega)
  rw [bump_back, bump_back] at this
  rw [show (if (a : Int) < firstA a then (a : Int) else firstA a) = 0 from by by_cases e : a = 0 <;> simp [firstA, e]] at this
  exact this

theorem unplaceB (F : Fx C b w0 a c v0 va S Wn rk N0 P0 g3 g4 g7 g8 g10 g11 g12 g13 g14) {g cap : Nat} {fa fb : Bool} {f2 l2 vb : Int} (hf : (if (c : Int) < f2 then (c : Int) else f2) = firstA a) (hl : l2 = (if (a : Int) < (c : Int) then (c : Int) else (a : Int)))
    (h : St C b wa (NN (NN N0 P0 a) (PP N0 P0 a) c) (PP (NN N0 P0 a) (PP N0 P0 a) c) S Wn (bump (-1) (Wn c) (bump (-1) (Wn a) (fun v : Nat => cnt Wn (fun _ => false) C.n v))) (bump (-1) (S c) (bump (-1) (S a) (fun v : Nat => cnt S (fun _ => false) C.n v))) (addB (B1 a) c) f2 l2 vb (.slice (some ⟨g, 0, none⟩) 2 cap) 2 (pl (a : Int) v0 (-1) 0 fa ++ pl (c : Int) va (-1) 0 fb)) :
    Calls Tryd.prog 18 #[.pointer (some ⟨b, 0, none⟩)] wa fun r w' => r = .returned (.tuple (pl (c : Int) va (-1) 0 fb).toArray) ∧ St C b w' (NN N0 P0 a) (PP N0 P0 a) S Wn (bump (-1) (Wn a) (fun v : Nat => cnt Wn (fun _ => false) C.n v)) (bump (-1) (S a) (fun v : Nat => cnt S (fun _ => false) C.n v)) (remB (addB (B1 a) c) c) (firstA a) (a : Int) va (.slice (some ⟨g, 0, none⟩) 1 cap) 1 (pl (a : Int) v0 (-1) 0 fa) := by
  refine zunplace _ _ _ _ _ (fun w o q hw => (hw.alloc o).drewN q) ?_
  have n3 := F.n3
  have hh := F.hh
  have ha := F.ha
  have hc := F.hc
  have hac := F.hac
  have nb := F.nb
  have m1 := F.m1
  have nb2 := F.nb2
  have hv := F.va
  have LA := F.lk.placed a (by omega) (fun q => q) (fun q => q)
  obtain ⟨k1, k2, k3, k4, k5, k6, k7, k8⟩ := LA.relinks c (by omega) (by intro q; rcases q with (q | q) | q <;> first | exact q | omega) (by intro q; rcases q with (q | q) | q <;> first | exact q | omega)
  have hl1 : (a : Int) ≤ l2 := by rw [hl]; split <;> omega
  have hl2 : l2 < 64 * (C.nb : Int) := by rw [hl]; split <;> omega
  have hb1 : ∀ (T : Nat → Int) (j : Nat), -1000000 ≤ bump (-1) (T c) (bump (-1) (T a) (fun v : Nat => cnt T (fun _ => false) C.n v)) j ∧ bump (-1) (T c) (bump (-1) (T a) (fun v : Nat => cnt T (fun _ => false) C.n v)) j ≤ 1000000 := fun T j => by
    have := bump_bound (d := -1) (f := T c) (by omega) (bump_bound (d := -1) (f := T a) (by omega) (cnt_b T C.n n3)) j
    omega
  have := unplace_two (a : Int) v0 (-1) fa c va (-1) fb g cap (unlN (NN N0 P0 a) (PP N0 P0 a) (2 * c)) (unlP (NN N0 P0 a) (PP N0 P0 a) (2 * c)) (NN N0 P0 a) (PP N0 P0 a) (a : Int) (fun j => j == a) h hc (by omega) (by omega) nb nb2 (by omega) (by omega) (by omega) k1 k2 k3 k4 (by omega) (by omega) (by omega) (by omega) (F.bW c hc) (F.bS c hc)
    (hb1 Wn) (hb1 S) (inBack C.nb a c hac) (by omega) hl1 hl2 (fun j h1 h2 => beq_eq_false_iff_ne.2 (by omega)) (fun j hj => beq_iff_eq.2 (by omega))
  rw [bump_back, bump_back, hf] at this
  exact this

end Go.Proofs.Qxb6614338aDoor
