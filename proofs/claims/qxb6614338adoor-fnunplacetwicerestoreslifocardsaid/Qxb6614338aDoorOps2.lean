import Derived.Test.Qxb6614338aDoorOps
namespace Go.Proofs.Qxb6614338aDoor
open Go.RowKit
variable {C : SC} {b : Nat} {w : World} {N P : Nat → Nat} {S Wn wt tt : Nat → Int} {B : Nat → Nat} {first last value : Int} {st : Value} {k : Nat} {xs : List Value}

theorem mark_true {R : World → Prop} (i : Nat) (hi : i < C.n) (_hn : C.n ≤ 1000000) (h : St C b w N P S Wn wt tt B first last value st k xs)
    (hc : Calls Tryd.prog 34 #[.pointer (some ⟨b, 15, none⟩), .int .i64 (i : Int)] w fun e w' => e = .returned (.tuple #[]) ∧ R w') :
    Calls Tryd.prog 31 #[.pointer (some ⟨b, 0, none⟩), .int .i64 (i : Int), .bool true] w fun e w' => e = .returned (.tuple #[]) ∧ R w' := by
  have x1 : w.cell? ⟨b, 1, none⟩ = some (.int .i64 (C.n : Int)) := h.s.cell (by decide)
  have HC := hid hc
  clear h hc
  go_enter Tryd.func31, Tryd.ntmps31
  go_wp2_with (go_at_call 34; refine (HC.out).mono ?_; rintro e w' ⟨rfl, hr⟩; have HR := hid hr; clear hr)
  refine bodyPost_ret (results_none rfl _ _ _) rfl ?_
  exact ⟨rfl, HR.out⟩

theorem mark_false {R : World → Prop} (i : Nat) (hi : i < C.n) (_hn : C.n ≤ 1000000) (h : St C b w N P S Wn wt tt B first last value st k xs)
    (hc : Calls Tryd.prog 35 #[.pointer (some ⟨b, 15, none⟩), .int .i64 (i : Int)] w fun e w' => e = .returned (.tuple #[]) ∧ R w') :
    Calls Tryd.prog 31 #[.pointer (some ⟨b, 0, none⟩), .int .i64 (i : Int), .bool false] w fun e w' => e = .returned (.tuple #[]) ∧ R w' := by
  have x1 : w.cell? ⟨b, 1, none⟩ = some (.int .i64 (C.n : Int)) := h.s.cell (by decide)
  have HC := hid hc
  clear h hc
  go_enter Tryd.func31, Tryd.ntmps31
  go_wp2_with (go_at_call 35; refine (HC.out).mono ?_; rintro e w' ⟨rfl, hr⟩; have HR := hid hr; clear hr)
  refine bodyPost_ret (results_none rfl _ _ _) rfl ?_
  exact ⟨rfl, HR.out⟩

theorem zmark {R : World → Prop} (i : Nat) (p : Bool)
    (hc : Calls Tryd.prog 31 #[.pointer (some ⟨b, 0, none⟩), .int .i64 (i : Int), .bool p] w fun e w' => e = .returned (.tuple #[]) ∧ R w') :
    Calls Tryd.prog 16 #[.pointer (some ⟨b, 0, none⟩), .int .i64 (i : Int), .bool p] w fun e w' => e = .returned (.tuple #[]) ∧ R w' := by
  have HC := hid hc
  clear hc
  go_enter Tryd.func16, Tryd.ntmps16
  go_wp2_with (go_at_call 31; refine (HC.out).mono ?_; rintro e w' ⟨rfl, hr⟩; have HR := hid hr; clear hr)
  go_end0
  exact ⟨rfl, HR.out⟩

def bump (d f : Int) (t : Nat → Int) : Nat → Int := if 0 ≤ f then upd t f.toNat (t f.toNat + d) else t

theorem count_any (i : Nat) (d : Int) (hi : i < C.n) (_hn : C.n ≤ 1000000) (_hm : C.m ≤ 1000000) (hd : -1 ≤ d ∧ d ≤ 1) (hW : Wn i < (C.m : Int)) (hS : S i < (C.m : Int)) (hw : ∀ j, -1000000 ≤ wt j ∧ wt j ≤ 1000000) (ht : ∀ j, -1000000 ≤ tt j ∧ tt j ≤ 1000000) (h : St C b w N P S Wn wt tt B first last value st k xs) :
    Calls Tryd.prog 30 #[.pointer (some ⟨b, 0, none⟩), .int .i64 (i : Int), .int .i64 d] w fun e w' => e = .returned (.tuple #[]) ∧ St C b w' N P S Wn (bump d (Wn i) wt) (bump d (S i) tt) B first last value st k xs := by
  obtain ⟨hd1, hd2⟩ := hd
  have H1 := hid (show ∃ w1, (if 0 ≤ Wn i then w1 = w.setCell ⟨C.gw, (Wn i).toNat, none⟩ (.int .i64 (wt (Wn i).toNat + d)) else w1 = w) ∧ St C b w1 N P S Wn (bump d (Wn i) wt) tt B first last value st k xs from by
    by_cases hz : 0 ≤ Wn i
    · simp only [if_pos hz, bump]; exact ⟨_, rfl, h.setWt _ _⟩
    · simp only [if_neg hz, bump]; exact ⟨_, rfl, h⟩)
  obtain ⟨w1, hw1, h1⟩ := H1.out
  have H2 := hid (show ∃ w2, (if 0 ≤ S i then w2 = w1.setCell ⟨C.gt, (S i).toNat, none⟩ (.int .i64 (tt (S i).toNat + d)) else w2 = w1) ∧ St C b w2 N P S Wn (bump d (Wn i) wt) (bump d (S i) tt) B first last value st k xs from by
    by_cases hz : 0 ≤ S i
    · simp only [if_pos hz, bump]; exact ⟨_, rfl, h1.setTt _ _⟩
    · simp only [if_neg hz, bump]; exact ⟨_, rfl, h1⟩)
  obtain ⟨w2, hw2, h2⟩ := H2.out
  have x1 : w.cell? ⟨b, 6, none⟩ = some (.slice (some ⟨C.gW, 0, none⟩) C.n C.n) := h.s.cell (by decide)
  have x2 := h.wants.cell (i := i) hi
  have x3 : w.cell? ⟨b, 8, none⟩ = some (.slice (some ⟨C.gw, 0, none⟩) C.m C.m) := h.s.cell (by decide)
  have x4 : w1.cell? ⟨b, 5, none⟩ = some (.slice (some ⟨C.gS, 0, none⟩) C.n C.n) := h1.s.cell (by decide)
  have x5 := h1.sets.cell (i := i) hi
  have x6 : w1.cell? ⟨b, 9, none⟩ = some (.slice (some ⟨C.gt, 0, none⟩) C.m C.m) := h1.s.cell (by decide)
  have x7 : w2.cell? ⟨b, 7, none⟩ = some (.slice (some ⟨C.gc, 0, none⟩) C.n C.n) := h2.s.cell (by decide)
  have x8 := h2.cues.cell (i := i) hi
  have HF := hid h2
  have z1 := fun (j : Nat) (hj : j < C.m) => h.wt.cell (i := j) hj
  have z2 := fun (j : Nat) => h.wt.frozen j
  have z3 := fun (j : Nat) (hj : j < C.m) => h1.tt.cell (i := j) hj
  have z4 := fun (j : Nat) => h1.tt.frozen j
  have Z := hid (And.intro z1 (And.intro z2 (And.intro z3 z4)))
  have HB := hid (And.intro hw ht)
  clear h h1 h2 H1 H2 z1 z2 z3 z4 hw ht
  generalize bump d (Wn i) wt = wt' at *
  generalize bump d (S i) tt = tt' at *
  generalize hWi : Wn i = f at *
  generalize hSi : S i = g at *
  clear hWi hSi
  by_cases hz : 0 ≤ f
  · obtain ⟨j, rfl⟩ : ∃ j : Nat, f = (j : Int) := ⟨f.toNat, by omega⟩
    rw [if_pos hz] at hw1
    rw [Int.toNat_natCast] at hw1
    have a1 := Z.out.1 j (by omega)
    have a2 := Z.out.2.1 j
    have a3 := (HB.out.1 j).1
    have a4 := (HB.out.1 j).2
    generalize wt j = y at *
    subst hw1
    by_cases hz2 : 0 ≤ g
    · obtain ⟨j2, rfl⟩ : ∃ j2 : Nat, g = (j2 : Int) := ⟨g.toNat, by omega⟩
      rw [if_pos hz2] at hw2
      rw [Int.toNat_natCast] at hw2
      have c1 := Z.out.2.2.1 j2 (by omega)
      have c2 := Z.out.2.2.2 j2
      have c3 := (HB.out.2 j2).1
      have c4 := (HB.out.2 j2).2
      generalize tt j2 = y2 at *
      subst hw2
      go_enter Tryd.func30, Tryd.ntmps30
      go_wp2_with fail
      go_end0
      exact ⟨rfl, HF.out⟩
    · rw [if_neg hz2] at hw2
      subst hw2
      have hz3 : g < 0 := by omega
      clear hz2
      go_enter Tryd.func30, Tryd.ntmps30
      go_wp2_with fail
      go_end0
      exact ⟨rfl, HF.out⟩
  · rw [if_neg hz] at hw1
    have hz3 : f < 0 := by omega
    clear hz
    subst hw1
    by_cases hz2 : 0 ≤ g
    · obtain ⟨j2, rfl⟩ : ∃ j2 : Nat, g = (j2 : Int) := ⟨g.toNat, by omega⟩
      rw [if_pos hz2] at hw2
      rw [Int.toNat_natCast] at hw2
      have c1 := Z.out.2.2.1 j2 (by omega)
      have c2 := Z.out.2.2.2 j2
      have c3 := (HB.out.2 j2).1
      have c4 := (HB.out.2 j2).2
      generalize tt j2 = y2 at *
      subst hw2
      go_enter Tryd.func30, Tryd.ntmps30
      go_wp2_with fail
      go_end0
      exact ⟨rfl, HF.out⟩
    · rw [if_neg hz2] at hw2
      subst hw2
      have hz4 : g < 0 := by omega
      clear hz2
      go_enter Tryd.func30, Tryd.ntmps30
      go_wp2_with fail
      go_end0
      exact ⟨rfl, HF.out⟩

theorem zcount {R : World → Prop} (i : Nat) (d : Int)
    (hc : Calls Tryd.prog 30 #[.pointer (some ⟨b, 0, none⟩), .int .i64 (i : Int), .int .i64 d] w fun e w' => e = .returned (.tuple #[]) ∧ R w') :
    Calls Tryd.prog 15 #[.pointer (some ⟨b, 0, none⟩), .int .i64 (i : Int), .int .i64 d] w fun e w' => e = .returned (.tuple #[]) ∧ R w' := by
  have HC := hid hc
  clear hc
  go_enter Tryd.func15, Tryd.ntmps15
  go_wp2_with (go_at_call 30; refine (HC.out).mono ?_; rintro e w' ⟨rfl, hr⟩; have HR := hid hr; clear hr)
  go_end0
  exact ⟨rfl, HR.out⟩

end Go.Proofs.Qxb6614338aDoor
