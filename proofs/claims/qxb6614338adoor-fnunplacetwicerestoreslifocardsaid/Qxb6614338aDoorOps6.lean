import Derived.Test.Qxb6614338aDoorOps5
namespace Go.Proofs.Qxb6614338aDoor
open Go.RowKit
variable {C : SC} {b : Nat} {w : World} {N P : Nat → Nat} {S Wn wt tt : Nat → Int} {B : Nat → Nat} {first last value : Int} {st : Value} {k : Nat} {xs : List Value}

theorem nx1 (h : St C b w N P S Wn wt tt B first last value st k xs) (hx : B 0 % 4 = 1) (hn2 : 2 ≤ C.n) (hn3 : C.n ≤ 1000000) (hnb : 1 ≤ C.nb) :
    Calls Tryd.prog 41 #[.pointer (some ⟨b, 15, none⟩), .int .i64 ((0 : Nat) : Int)] w fun e w' => e = .returned (.int .i64 1) ∧ ∃ q, w' = w.drewN q := by
  have hb := h.bl 0
  have hv : (18446744073709551615 - B 0) % 4 = 2 := by omega
  exact next_one (B 0) C.n b C.gb C.nb _ w (h.s.cell (i := 15) (by decide)) (h.s.cell (i := 16) (by decide)) hnb (h.bits.cell (i := 0) (by omega)) hn2 hn3 (xor_all (B 0) hb) (beq_eq_false_iff_ne.2 (by omega)) (low_two _ hv (by omega)) h.tab.1

theorem nx2 (h : St C b w N P S Wn wt tt B first last value st k xs) (hx : B 0 = 3) (hn2 : 2 ≤ C.n) (hn3 : C.n ≤ 1000000) (hnb : 1 ≤ C.nb) :
    Calls Tryd.prog 41 #[.pointer (some ⟨b, 15, none⟩), .int .i64 ((0 : Nat) : Int)] w fun e w' => e = .returned (.int .i64 2) ∧ ∃ q, w' = w.drewN q := by
  have hb := h.bl 0
  have hc := h.bits.cell (i := 0) (by omega)
  have hX := xor_all (B 0) hb
  rw [hx] at hc hX
  exact next_two 3 C.n b C.gb C.nb _ w (h.s.cell (i := 15) (by decide)) (h.s.cell (i := 16) (by decide)) hnb hc hn2 hn3 hX (by decide) low_four h.tab.2

theorem nx3 (h : St C b w N P S Wn wt tt B first last value st k xs) (hx : B 0 = 3) (hn2 : 2 ≤ C.n) (hn3 : C.n ≤ 1000000) (hnb : 1 ≤ C.nb) :
    Calls Tryd.prog 41 #[.pointer (some ⟨b, 15, none⟩), .int .i64 ((1 : Nat) : Int)] w fun e w' => e = .returned (.int .i64 2) ∧ ∃ q, w' = w.drewN q := by
  have hb := h.bl 0
  have hc := h.bits.cell (i := 0) (by omega)
  have hX := xor_all (B 0) hb
  rw [hx] at hc hX
  exact next_from1 3 C.n b C.gb C.nb _ _ w (h.s.cell (i := 15) (by decide)) (h.s.cell (i := 16) (by decide)) hnb hc hn2 hn3 hX rfl (by decide) (low_two 9223372036854775806 (by decide) (by decide)) h.tab.1

def firstA (a : Nat) : Int := if a = 0 then 1 else 0

def B1 (a : Nat) : Nat → Nat := addB (fun _ => 0) a

/-- The first placement's mark. -/
theorem add_first (a : Nat) (ha : a < C.n) (hn2 : 2 ≤ C.n) (hn3 : C.n ≤ 1000000) (hnb : C.n ≤ 64 * C.nb) (hnb2 : C.nb ≤ 100000) (h : St C b w N P S Wn wt tt (fun _ => 0) 0 (-1) value st k xs) :
    Calls Tryd.prog 34 #[.pointer (some ⟨b, 15, none⟩), .int .i64 (a : Int)] w fun e w' => e = .returned (.tuple #[]) ∧ St C b w' N P S Wn wt tt (B1 a) (firstA a) (a : Int) value st k xs := by
  have e1 : (if (a : Int) = 0 then (1 : Int) else 0) = firstA a := by
    by_cases e : a = 0
    · subst e; rfl
    · rw [firstA, if_neg e, if_neg (by omega)]
  have e2 : (if (-1 : Int) < (a : Int) then (a : Int) else -1) = (a : Int) := if_pos (by omega)
  have := add_any (r := 1) a (by omega) hnb2 h (fun he wx hx => by
    obtain rfl : a = 0 := by omega
    exact nx1 hx (by decide) hn2 hn3 (by omega))
  rw [e1, e2] at this
  exact this

theorem B1_zero (a : Nat) (ha : 2 ≤ a) : addB (B1 a) 0 0 % 4 = 1 := by
  show (B1 a 0 ||| 1) % 4 = 1
  have : B1 a 0 % 4 = 0 := by
    by_cases e : a / 64 = 0
    · have e2 : B1 a 0 = 0 ||| 2 ^ (a % 64) := by
        show upd (fun _ => 0) (a / 64) _ 0 = _
        rw [e, upd_same]
      rw [e2, Nat.zero_or, Nat.mod_eq_of_lt (show a < 64 by omega)]
      obtain ⟨q, rfl⟩ : ∃ q, a = q + 2 := ⟨a - 2, by omega⟩
      rw [Nat.pow_add]
      omega
    · have e2 : B1 a 0 = 0 := by
        show upd (fun _ => 0) (a / 64) _ 0 = _
        rw [upd_other (fun h => e h.symm)]
      rw [e2]
  have h4 := Nat.or_mod_two_pow (a := B1 a 0) (b := 1) (n := 2)
  rw [show (2 : Nat) ^ 2 = 4 from rfl] at h4
  rw [h4, this]
  rfl

/-- The second placement's mark. -/
theorem add_second (a c : Nat) (hac : a ≠ c) (ha : a < C.n) (hc : c < C.n) (hn3 : C.n ≤ 1000000) (hnb : C.n ≤ 64 * C.nb) (hnb2 : C.nb ≤ 100000) (h : St C b w N P S Wn wt tt (B1 a) (firstA a) (a : Int) value st k xs) :
    ∃ f2 l2 : Int, (if (c : Int) < f2 then (c : Int) else f2) = firstA a ∧ l2 = (if (a : Int) < (c : Int) then (c : Int) else (a : Int)) ∧
    Calls Tryd.prog 34 #[.pointer (some ⟨b, 15, none⟩), .int .i64 (c : Int)] w fun e w' => e = .returned (.tuple #[]) ∧ St C b w' N P S Wn wt tt (addB (B1 a) c) f2 l2 value st k xs := by
  by_cases e : (c : Int) = firstA a
  · by_cases e0 : a = 0
    · subst e0
      obtain rfl : c = 1 := by simp only [firstA, if_true] at e; omega
      refine ⟨2, _, by decide, rfl, ?_⟩
      have := add_any (r := 2) 1 (by omega) hnb2 h (fun he wx hx => nx3 hx (by decide) (by omega) hn3 (by omega))
      rw [if_pos e] at this
      exact this
    · have hf : firstA a = 0 := by rw [firstA, if_neg e0]
      obtain rfl : c = 0 := by omega
      by_cases e1 : a = 1
      · subst e1
        refine ⟨2, _, by decide, rfl, ?_⟩
        have := add_any (r := 2) 0 (by omega) hnb2 h (fun he wx hx => nx2 hx (by decide) (by omega) hn3 (by omega))
        rw [if_pos e] at this
        exact this
      · refine ⟨1, _, by rw [hf]; decide, rfl, ?_⟩
        have := add_any (r := 1) 0 (by omega) hnb2 h (fun he wx hx => nx1 hx (B1_zero a (by omega)) (by omega) hn3 (by omega))
        rw [if_pos e] at this
        exact this
  · refine ⟨firstA a, _, ?_, rfl, ?_⟩
    · refine if_neg ?_
      by_cases e0 : a = 0
      · simp only [firstA, if_pos e0]; omega
      · simp only [firstA, if_neg e0]; omega
    · have := add_any (r := 0) c (by omega) hnb2 h (fun he wx hx => absurd he e)
      rw [if_neg e] at this
      exact this

end Go.Proofs.Qxb6614338aDoor
