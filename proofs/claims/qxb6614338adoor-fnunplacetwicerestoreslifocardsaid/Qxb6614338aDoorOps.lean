import Derived.Test.Qxb6614338aDoorSearch
import Derived.BigRegion
namespace Go.Proofs.Qxb6614338aDoor
open Go.RowKit
variable {C : SC} {b : Nat} {w : World} {N P : Nat → Nat} {S Wn wt tt : Nat → Int} {B : Nat → Nat} {first last value : Int} {st : Value} {k : Nat} {xs : List Value}

def addB (B : Nat → Nat) (i : Nat) : Nat → Nat := upd B (i / 64) (B (i / 64) ||| 2 ^ (i % 64))
def remB (B : Nat → Nat) (i : Nat) : Nat → Nat := upd B (i / 64) (B (i / 64) &&& (18446744073709551615 - 2 ^ (i % 64)))

/-- add. -/
theorem add_any (i : Nat) (r : Int) (hi : i < 64 * C.nb) (hn : C.nb ≤ 100000) (h : St C b w N P S Wn wt tt B first last value st k xs)
    (hx : (i : Int) = first → ∀ wx, St C b wx N P S Wn wt tt (addB B i) first last value st k xs → Calls Tryd.prog 41 #[.pointer (some ⟨b, 15, none⟩), .int .i64 (i : Int)] wx fun e w' => e = .returned (.int .i64 r) ∧ ∃ q, w' = wx.drewN q) :
    Calls Tryd.prog 34 #[.pointer (some ⟨b, 15, none⟩), .int .i64 (i : Int)] w fun e w' => e = .returned (.tuple #[]) ∧ St C b w' N P S Wn wt tt (addB B i) (if (i : Int) = first then r else first) (if last < (i : Int) then (i : Int) else last) value st k xs := by
  have x1 : w.cell? ⟨b, 15, none⟩ = some (.slice (some ⟨C.gb, 0, none⟩) C.nb C.nb) := h.s.cell (by decide)
  have x2 : w.cell? ⟨C.gb, i / 64, none⟩ = some (.int .u64 (B (i / 64) : Int)) := h.bits.cell (by omega)
  have x3 : w.frozen? ⟨C.gb, i / 64, none⟩ = false := h.bits.frozen _
  have hor := hid (or_bit (B (i / 64)) (i % 64) (h.bl _) (Nat.mod_lt _ (by decide)))
  have hs := hid (h.setBits (i / 64) _ (or_lt (B (i / 64)) (i % 64) (h.bl _) (Nat.mod_lt _ (by decide))))
  have hx' := hid hx
  clear h hx
  generalize hf : (if (i : Int) = first then r else first) = f'
  generalize hl : (if last < (i : Int) then (i : Int) else last) = l'
  have HF := hid hf
  have HL := hid hl
  clear hf hl
  go_enter Tryd.func34, Tryd.ntmps34
  go_wp2_with fail
  go_region
  rw [hor.out]
  have h1 := hid (show St C b (w.setCell ⟨C.gb, i / 64, none⟩ (.int .u64 ((B (i / 64) ||| 2 ^ (i % 64) : Nat) : Int))).drew N P S Wn wt tt (addB B i) first last value st k xs from hs.out.drewN 1)
  clear hor hs x1 x2 x3
  generalize (w.setCell ⟨C.gb, i / 64, none⟩ (.int .u64 ((B (i / 64) ||| 2 ^ (i % 64) : Nat) : Int))).drew = w1 at *
  have y1 : w1.cell? ⟨b, 17, none⟩ = some (.int .i64 first) := h1.out.s.cell (by decide)
  have y2 : w1.frozen? ⟨b, 17, none⟩ = false := h1.out.s.frozen _
  have y3 : w1.cell? ⟨b, 18, none⟩ = some (.int .i64 last) := h1.out.s.cell (by decide)
  have y4 : w1.frozen? ⟨b, 18, none⟩ = false := h1.out.s.frozen _
  generalize B (i / 64) = b64 at *
  by_cases e1 : (i : Int) = first
  · have e2 : ((i : Int) == first) = true := beq_iff_eq.2 e1
    have hc := hid (hx'.out e1 w1 h1.out)
    have HF1 := hid (HF.out.symm.trans (if_pos e1))
    clear e1 hx'
    by_cases e3 : last < (i : Int)
    · have HL1 := hid (HL.out.symm.trans (if_pos e3))
      go_wp2_with (go_at_call 41; refine (hc.out).mono ?_; rintro e w' ⟨rfl, q, rfl⟩)
      go_end0
      rw [HF1.out, HL1.out]
      exact ⟨rfl, ((h1.out.drewN q).setFirst r).setLast i⟩
    · have HL1 := hid (HL.out.symm.trans (if_neg e3))
      go_wp2_with (go_at_call 41; refine (hc.out).mono ?_; rintro e w' ⟨rfl, q, rfl⟩)
      go_end0
      rw [HF1.out, HL1.out]
      exact ⟨rfl, ((h1.out.drewN q).setFirst r)⟩
  · have e2 : ((i : Int) == first) = false := beq_eq_false_iff_ne.2 e1
    have HF1 := hid (HF.out.symm.trans (if_neg e1))
    clear e1 hx'
    by_cases e3 : last < (i : Int)
    · have HL1 := hid (HL.out.symm.trans (if_pos e3))
      go_wp2_with fail
      go_end0
      rw [HF1.out, HL1.out]
      exact ⟨rfl, h1.out.setLast i⟩
    · have HL1 := hid (HL.out.symm.trans (if_neg e3))
      go_wp2_with fail
      go_end0
      rw [HF1.out, HL1.out]
      exact ⟨rfl, h1.out⟩

def lastOf (b : Nat) (w : World) : Int := intOf ((w.cell? ⟨b, 18, none⟩).getD (.int .i64 0))

theorem lastOf_eq {x : Int} (h : w.cell? ⟨b, 18, none⟩ = some (.int .i64 x)) : lastOf b w = x := by rw [lastOf, h]; rfl

/-- remove. -/
theorem remove_any (i : Nat) (l' : Int) (s' : Nat → Bool) (hi : i < 64 * C.nb) (hn : C.nb ≤ 100000) (h : St C b w N P S Wn wt tt B first last value st k xs)
    (hs' : InS C.nb (remB B i) s') (h0 : -1 ≤ l') (h1 : l' ≤ last) (h2 : last < 64 * (C.nb : Int)) (hd : ∀ j : Nat, l' < (j : Int) → (j : Int) ≤ last → s' j = false) (he : ∀ j : Nat, l' = (j : Int) → s' j = true) :
    Calls Tryd.prog 35 #[.pointer (some ⟨b, 15, none⟩), .int .i64 (i : Int)] w fun e w' => e = .returned (.tuple #[]) ∧ St C b w' N P S Wn wt tt (remB B i) (if (i : Int) < first then (i : Int) else first) l' value st k xs := by
  have x1 : w.cell? ⟨b, 15, none⟩ = some (.slice (some ⟨C.gb, 0, none⟩) C.nb C.nb) := h.s.cell (by decide)
  have x2 : w.cell? ⟨C.gb, i / 64, none⟩ = some (.int .u64 (B (i / 64) : Int)) := h.bits.cell (by omega)
  have x3 : w.frozen? ⟨C.gb, i / 64, none⟩ = false := h.bits.frozen _
  have hor := hid (andNot_bit (B (i / 64)) (i % 64) (h.bl _) (Nat.mod_lt _ (by decide)))
  have hs := hid (h.setBits (i / 64) _ (andNot_lt (B (i / 64)) (18446744073709551615 - 2 ^ (i % 64)) (h.bl _)))
  have X := hid (And.intro hs' (And.intro hd he))
  have X2 := hid (And.intro h0 (And.intro h1 h2))
  clear h hs' hd he h0 h1 h2
  generalize hf : (if (i : Int) < first then (i : Int) else first) = f'
  have HF := hid hf
  clear hf
  go_enter Tryd.func35, Tryd.ntmps35
  go_wp2_with fail
  go_region
  rw [hor.out]
  have h1 := hid (show St C b (w.setCell ⟨C.gb, i / 64, none⟩ (.int .u64 ((B (i / 64) &&& (18446744073709551615 - 2 ^ (i % 64)) : Nat) : Int))).drew N P S Wn wt tt (remB B i) first last value st k xs from hs.out.drewN 1)
  clear hor hs x1 x2 x3
  generalize (w.setCell ⟨C.gb, i / 64, none⟩ (.int .u64 ((B (i / 64) &&& (18446744073709551615 - 2 ^ (i % 64)) : Nat) : Int))).drew = w1 at *
  generalize (B (i / 64) &&& (18446744073709551615 - 2 ^ (i % 64))) = b65 at *
  generalize B (i / 64) = b64 at *
  have y1 : w1.cell? ⟨b, 17, none⟩ = some (.int .i64 first) := h1.out.s.cell (by decide)
  have y2 : w1.frozen? ⟨b, 17, none⟩ = false := h1.out.s.frozen _
  go_wp2_with fail
  · rename_i hlt
    have h2 := hid (show St C b (w1.setCell ⟨b, 17, none⟩ (.int .i64 (i : Int))) N P S Wn wt tt (remB B i) f' last value st k xs from by rw [← HF.out, if_pos hlt]; exact h1.out.setFirst i)
    generalize (w1.setCell ⟨b, 17, none⟩ (.int .i64 (i : Int))) = w2 at h2 ⊢
    clear h1 HF hlt y1 y2
    go_loopw [30] (fun _ w' => ∃ x : Int, Hid (l' ≤ x ∧ x ≤ last ∧ St C b w' N P S Wn wt tt (remB B i) f' x value st k xs)) (fun _ w' => (lastOf b w' + 1).toNat)
    case atStart => exact ⟨last, X2.out.2.1, Int.le_refl _, h2.out⟩
    case round =>
      obtain ⟨x, hx⟩ := hrel
      obtain ⟨hx1, hx2, hx3⟩ := hx.out
      have q1 := hx3.s.cell (i := 18) (by decide)
      have q2 := hx3.s.frozen 18
      dsimp only [sfn] at q1
      have H3 := hid hx3
      have m1 := hid (lastOf_eq q1)
      obtain ⟨n1, n2, n3⟩ := X2.out
      by_cases hneg : x < 0
      · have ex : x = -1 := by omega
        have el : l' = -1 := by omega
        have EL := hid el
        subst ex
        clear hx hx1 hx2 hx3 n1 n2 n3 el
        go_wp2_with fail
        go_end0
        rw [EL.out]
        exact ⟨rfl, H3.out⟩
      · obtain ⟨j, rfl⟩ : ∃ j : Nat, x = (j : Int) := ⟨x.toNat, by omega⟩
        have hc := hid (has_any j (by omega) hn hx3)
        have hin := hid (X.out.1 j (by omega))
        rw [hin.out] at hc
        cases hb : s' j with
        | true =>
          have el : l' = (j : Int) := by
            by_cases hq : l' < (j : Int)
            · have := X.out.2.1 j hq hx2; rw [hb] at this; cases this
            · omega
          have EL := hid el
          rw [hb] at hc
          clear hx hx1 hx2 hx3 n1 n2 n3 el hb
          go_wp2_with (go_at_call 40; refine (hc.out).mono ?_; rintro e w' ⟨rfl, q, rfl⟩)
          go_end0
          rw [EL.out]
          exact ⟨rfl, H3.out.drewN q⟩
        | false =>
          have el : l' ≤ (j : Int) - 1 := by
            by_cases hq : l' = (j : Int)
            · have := X.out.2.2 j hq; rw [hb] at this; cases this
            · omega
          have hj : j < 6400000 := by omega
          have EL := hid (And.intro el hx2)
          rw [hb] at hc
          clear hx hx1 hx2 hx3 n1 n2 n3 el hb
          go_wp2_with (go_at_call 40; refine (hc.out).mono ?_; rintro e w' ⟨rfl, q, rfl⟩)
          go_roundw
          case rel => exact ⟨(j : Int) - 1, EL.out.1, by have := EL.out.2; omega, (H3.out.drewN q).setLast _⟩
          case measure =>
            have m2 := lastOf_eq (w := (_ : World)) (((H3.out.drewN q).setLast ((j : Int) - 1)).s.cell (i := 18) (by decide))
            rw [m1.out, m2]
            omega
  · rename_i hlt
    have h2 := hid (show St C b w1 N P S Wn wt tt (remB B i) f' last value st k xs from by rw [← HF.out, if_neg (by omega)]; exact h1.out)
    clear h1 HF hlt y1 y2
    go_loopw [30] (fun _ w' => ∃ x : Int, Hid (l' ≤ x ∧ x ≤ last ∧ St C b w' N P S Wn wt tt (remB B i) f' x value st k xs)) (fun _ w' => (lastOf b w' + 1).toNat)
    case atStart => exact ⟨last, X2.out.2.1, Int.le_refl _, h2.out⟩
    case round =>
      obtain ⟨x, hx⟩ := hrel
      obtain ⟨hx1, hx2, hx3⟩ := hx.out
      have q1 := hx3.s.cell (i := 18) (by decide)
      have q2 := hx3.s.frozen 18
      dsimp only [sfn] at q1
      have H3 := hid hx3
      have m1 := hid (lastOf_eq q1)
      obtain ⟨n1, n2, n3⟩ := X2.out
      by_cases hneg : x < 0
      · have ex : x = -1 := by omega
        have el : l' = -1 := by omega
        have EL := hid el
        subst ex
        clear hx hx1 hx2 hx3 n1 n2 n3 el
        go_wp2_with fail
        go_end0
        rw [EL.out]
        exact ⟨rfl, H3.out⟩
      · obtain ⟨j, rfl⟩ : ∃ j : Nat, x = (j : Int) := ⟨x.toNat, by omega⟩
        have hc := hid (has_any j (by omega) hn hx3)
        have hin := hid (X.out.1 j (by omega))
        rw [hin.out] at hc
        cases hb : s' j with
        | true =>
          have el : l' = (j : Int) := by
            by_cases hq : l' < (j : Int)
            · have := X.out.2.1 j hq hx2; rw [hb] at this; cases this
            · omega
          have EL := hid el
          rw [hb] at hc
          clear hx hx1 hx2 hx3 n1 n2 n3 el hb
          go_wp2_with (go_at_call 40; refine (hc.out).mono ?_; rintro e w' ⟨rfl, q, rfl⟩)
          go_end0
          rw [EL.out]
          exact ⟨rfl, H3.out.drewN q⟩
        | false =>
          have el : l' ≤ (j : Int) - 1 := by
            by_cases hq : l' = (j : Int)
            · have := X.out.2.2 j hq; rw [hb] at this; cases this
            · omega
          have hj : j < 6400000 := by omega
          have EL := hid (And.intro el hx2)
          rw [hb] at hc
          clear hx hx1 hx2 hx3 n1 n2 n3 el hb
          go_wp2_with (go_at_call 40; refine (hc.out).mono ?_; rintro e w' ⟨rfl, q, rfl⟩)
          go_roundw
          case rel => exact ⟨(j : Int) - 1, EL.out.1, by have := EL.out.2; omega, (H3.out.drewN q).setLast _⟩
          case measure =>
            have m2 := lastOf_eq (w := (_ : World)) (((H3.out.drewN q).setLast ((j : Int) - 1)).s.cell (i := 18) (by decide))
            rw [m1.out, m2]
            omega
end Go.Proofs.Qxb6614338aDoor
