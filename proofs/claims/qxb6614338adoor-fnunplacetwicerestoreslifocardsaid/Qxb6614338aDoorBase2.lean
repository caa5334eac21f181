import Derived.Test.Qxb6614338aDoorBase
namespace Go.Proofs.Qxb6614338aDoor
open Go.RowKit

/-- zzNoCues. -/
theorem nocues_any (n : Nat) (w : World) (hn : n ≤ 1000000) :
    Calls Tryd.prog 14 #[.int .i64 (n : Int)] w fun e w' => e = .returned (.slice (some ⟨w.heap.size, 0, none⟩) n n) ∧ RI w' w.heap.size n (fun _ => -1) ∧ Below w.heap.size w w' ∧ w'.heap.size = w.heap.size + 1 := by
  have hmk := run_make_row' (P := Tryd.prog) 22 3 (.int .i64 0) 8 Tryd.underlying22 Tryd.info3 rfl .i64 .i64 n (by omega) (by omega)
  go_enter Tryd.func14, Tryd.ntmps14
  go_wp2_with fail
  go_loopw [4] (fun e w' => ∃ k : Nat, k ≤ n ∧ e = .int .i64 k ∧ Hid (Below w.heap.size w w' ∧ w'.heap.size = w.heap.size + 1 ∧ ∃ F, RI w' w.heap.size n F ∧ ∀ j, j < k → F j = -1)) (fun e _ => n - (intOf e).toNat)
  case atStart => exact ⟨0, Nat.zero_le _, rfl, (Below.refl _ _).alloc (Nat.le_refl _) _, by simp, _, World.rowIs_made w (.int .i64 0) n 3, fun j hj => by omega⟩
  case round =>
    obtain ⟨k, hk, rfl, hq⟩ := hrel
    obtain ⟨hb', hs', F, hF, hc⟩ := hq.out
    by_cases hlt : k < n
    · have x1 := hF.cell (i := k) (by omega)
      have x2 := hF.frozen k
      have X := hid (And.intro hb' (And.intro hs' (And.intro hF hc)))
      clear hb' hs' hF hc hq
      generalize F k = f1 at *
      go_wp2_with fail
      go_roundw
      case rel =>
        obtain ⟨hb', hs', hF, hc⟩ := X.out
        refine ⟨k + 1, by omega, by go_num, hb'.setCell (Nat.le_refl _) _, by simpa using hs', _, hF.set k _, fun j hj => ?_⟩
        by_cases e : j = k
        · subst e; exact upd_same _ _ _
        · rw [upd_other e]; exact hc j (by omega)
      case measure => simp [intOf]; omega
    · go_wp2_with fail
      go_ret
      exact ⟨rfl, hF.congr (fun i hi => hc i (by omega)), hb', hs'⟩

/-- zzEqualInts at two rows that hold the same. -/
theorem equal_any (g1 g2 n : Nat) (Z1 Z2 : Nat → Int) (w : World) (hn : n ≤ 1000000) (h1 : RI w g1 n Z1) (h2 : RI w g2 n Z2) (he : ∀ i, i < n → Z1 i = Z2 i) :
    Calls Tryd.prog 22 #[.slice (some ⟨g1, 0, none⟩) n n, .slice (some ⟨g2, 0, none⟩) n n] w fun e w' => e = .returned (.bool true) ∧ ∃ q, w' = w.drewN q := by
  have X := hid (And.intro h1 (And.intro h2 he))
  clear h1 h2 he
  go_enter Tryd.func22, Tryd.ntmps22
  go_wp2_with fail
  go_loopw [5] (fun e w' => ∃ k : Nat, k ≤ n ∧ e = .int .i64 k ∧ Hid (∃ q, w' = w.drewN q)) (fun e _ => n - (intOf e).toNat)
  case atStart => exact ⟨0, Nat.zero_le _, rfl, 0, rfl⟩
  case round =>
    obtain ⟨k, hk, rfl, hq⟩ := hrel
    obtain ⟨h1, h2, he⟩ := X.out
    by_cases hlt : k < n
    · have y1 : wr.cell? ⟨g1, k, none⟩ = some (.int .i64 (Z1 k)) := by obtain ⟨q, rfl⟩ := hq.out; exact h1.cell hlt
      have y2 : wr.cell? ⟨g2, k, none⟩ = some (.int .i64 (Z1 k)) := by obtain ⟨q, rfl⟩ := hq.out; rw [he k hlt]; exact h2.cell hlt
      clear h1 h2 he
      generalize Z1 k = z at *
      go_wp2_with fail
      go_region
      go_wp2_with fail
      go_roundw
      case rel => exact ⟨k + 1, by omega, by go_num, by obtain ⟨q, rfl⟩ := hq.out; exact ⟨q + 1, rfl⟩⟩
      case measure => simp [intOf]; omega
    · go_wp2_with fail
      go_ret
      exact ⟨rfl, hq.out⟩

/-- zzLowestNot of a set of one. -/
theorem lowest_any (g n a : Nat) (w : World) (hn : n ≤ 1000000) (hn2 : 2 ≤ n) (h : RB w g n (fun i => i == a)) :
    Calls Tryd.prog 25 #[.slice (some ⟨g, 0, none⟩) n n] w fun e w' => e = .returned (.int .i64 (if a = 0 then 1 else 0)) ∧ w' = w := by
  have x0 := h.cell (i := 0) (by omega)
  have x1 := h.cell (i := 1) (by omega)
  clear h
  by_cases ha : a = 0
  · subst ha
    have y0 : w.cell? ⟨g, 0, none⟩ = some (.bool true) := x0
    have y1 : w.cell? ⟨g, 1, none⟩ = some (.bool false) := x1
    clear x0 x1
    go_enter Tryd.func25, Tryd.ntmps25
    go_wp2_with fail
    go_loop [3] (fun e => e = .int .i64 0 ∨ e = .int .i64 1) (fun e => 1 - (intOf e).toNat)
    case atStart => exact .inl rfl
    case round =>
      rcases hrel with rfl | rfl
      · go_wp2_with fail
        go_round
        case rel => exact .inr rfl
        case measure => simp [intOf]
      · go_wp2_with fail
        go_ret
        exact ⟨rfl, rfl⟩
  · have e0 : (0 == a) = false := by simpa using Ne.symm ha
    rw [e0] at x0
    clear e0 x1
    go_enter Tryd.func25, Tryd.ntmps25
    go_wp2_with fail
    refine wp_loop_rounds 1 ?_
    rw [rounds_succ]
    go_wp2_with fail
    go_ret
    exact ⟨rfl, rfl⟩

/-- zzHighest of a set of one. -/
theorem highest_any (g n a : Nat) (w : World) (hn : n ≤ 1000000) (ha : a < n) (h : RB w g n (fun i => i == a)) :
    Calls Tryd.prog 26 #[.slice (some ⟨g, 0, none⟩) n n] w fun e w' => e = .returned (.int .i64 (a : Int)) ∧ w' = w := by
  have X := hid h
  clear h
  go_enter Tryd.func26, Tryd.ntmps26
  go_wp2_with fail
  go_loop [3] (fun e => ∃ k : Nat, a ≤ k ∧ k < n ∧ e = .int .i64 k) (fun e => (intOf e).toNat)
  case atStart => exact ⟨n - 1, by omega, by omega, by rw [show ((n - 1 : Nat) : Int) = (n : Int) - 1 by omega]⟩
  case round =>
    obtain ⟨k, hk, hkn, rfl⟩ := hrel
    have x1 := X.out.cell (i := k) hkn
    by_cases e : k = a
    · subst e
      rw [beq_self_eq_true] at x1
      go_wp2_with fail
      go_ret
      exact ⟨rfl, rfl⟩
    · rw [show (k == a) = false by simpa using e] at x1
      go_wp2_with fail
      go_round
      case rel => exact ⟨k - 1, by omega, by omega, by rw [show ((k - 1 : Nat) : Int) = (k : Int) - 1 by omega]⟩
      case measure => simp [intOf]; omega

theorem cnt_yes {T : Nat → Int} {pl : Nat → Bool} {k u : Nat} (hp : pl k = false) (hT : T k = (u : Int)) (v : Nat) : upd (fun v : Nat => cnt T pl k v) u (cnt T pl k u + 1) v = cnt T pl (k + 1) v := by
  simp only [cnt, upd, hp, hT]
  by_cases e : v = u
  · subst e; simp
  · have : ¬ (u : Int) = (v : Int) := by omega
    simp [e, this]

theorem cnt_no {T : Nat → Int} {pl : Nat → Bool} {k : Nat} (h : pl k = true ∨ T k < 0) (v : Nat) : cnt T pl k v = cnt T pl (k + 1) v := by
  simp only [cnt]
  rw [if_neg ?_, Int.add_zero]
  rintro ⟨h1, h2⟩
  rcases h with h | h
  · rw [h] at h1; cases h1
  · omega

set_option maxHeartbeats 4000000 in
/-- zzRecount. -/
theorem recount_any (gS gW gp n m : Nat) (S Wn : Nat → Int) (pl : Nat → Bool) (w : World) (hn : n ≤ 262144) (hm : m ≤ 65536) (hS : RI w gS n S) (hW : RI w gW n Wn) (hp : RB w gp n pl)
    (bS : ∀ i, i < n → -1 ≤ S i ∧ S i < m) (bW : ∀ i, i < n → -1 ≤ Wn i ∧ Wn i < m) :
    Calls Tryd.prog 12 #[.slice (some ⟨gS, 0, none⟩) n n, .slice (some ⟨gW, 0, none⟩) n n, .int .i64 (m : Int), .slice (some ⟨gp, 0, none⟩) n n] w fun e w' => e = .returned (.tuple #[.slice (some ⟨w.heap.size, 0, none⟩) m m, .slice (some ⟨w.heap.size + 1, 0, none⟩) m m]) ∧
      RI w' w.heap.size m (fun v => cnt Wn pl n v) ∧ RI w' (w.heap.size + 1) m (fun v => cnt S pl n v) ∧ Below w.heap.size w w' ∧ w'.heap.size = w.heap.size + 2 := by
  have X := hid (And.intro hS (And.intro hW (And.intro hp (And.intro bS bW))))
  clear hS hW hp bS bW
  have hmk := run_make_row' (P := Tryd.prog) 22 3 (.int .i64 0) 8 Tryd.underlying22 Tryd.info3 rfl .i64 .i64 m (by omega) (by omega)
  go_enter Tryd.func12, Tryd.ntmps12
  go_wp2_with fail
  go_loopw [12] (fun e w' => ∃ k : Nat, k ≤ n ∧ e = .int .i64 k ∧ Hid (Below w.heap.size w w' ∧ w'.heap.size = w.heap.size + 2 ∧ RI w' w.heap.size m (fun v => cnt Wn pl k v) ∧ RI w' (w.heap.size + 1) m (fun v => cnt S pl k v))) (fun e _ => n - (intOf e).toNat)
  case atStart =>
    refine ⟨0, Nat.zero_le _, rfl, ((Below.refl _ _).alloc (Nat.le_refl _) _).alloc (by simp) _, by simp, (World.rowIs_made w (.int .i64 0) m 3).alloc _, ?_⟩
    have := World.rowIs_made (w.alloc (.cells (madeCells #[.int .i64 0] m) 3)) (.int .i64 0) m 3
    rw [World.size_alloc] at this
    exact this
  case round =>
    obtain ⟨k, hk, rfl, hq⟩ := hrel
    obtain ⟨hb', hs', hw1, hs1⟩ := hq.out
    obtain ⟨hS, hW, hp, bS, bW⟩ := X.out
    by_cases hlt : k < n
    · have y1 : wr.cell? ⟨gp, k, none⟩ = some (.bool (pl k)) := cell_later hb' (hp.cell hlt)
      have y2 : wr.cell? ⟨gW, k, none⟩ = some (.int .i64 (Wn k)) := cell_later hb' (hW.cell hlt)
      have y3 : wr.cell? ⟨gS, k, none⟩ = some (.int .i64 (S k)) := cell_later hb' (hS.cell hlt)
      have nS : gS < w.heap.size := hS.lt
      obtain ⟨b1, b2⟩ := bW k hlt
      obtain ⟨b3, b4⟩ := bS k hlt
      have nW : gW < w.heap.size := hW.lt
      have nP : gp < w.heap.size := World.rowIs.lt hp
      have Y := hid (And.intro hb' (And.intro hs' (And.intro hw1 hs1)))
      cases hpl : pl k
      · have HPL := hid hpl
        rw [hpl] at y1
        clear hpl
        by_cases eW : 0 ≤ Wn k
        · obtain ⟨u, hu⟩ := Int.eq_ofNat_of_zero_le eW
          have c1 := cnt_bound Wn pl k u
          rw [hu] at y2 b2
          have x1 := hw1.cell (i := u) (by omega)
          have x2 := hw1.frozen u
          have HU := hid hu
          have HX1 := hid hw1
          clear hu eW b1
          by_cases eS : 0 ≤ S k
          · obtain ⟨t, ht⟩ := Int.eq_ofNat_of_zero_le eS
            have c2 := cnt_bound S pl k t
            rw [ht] at y3 b4
            have x3 := hs1.cell (i := t) (by omega)
            have x4 := hs1.frozen t
            have HT := hid ht
            clear ht eS b3 hb' hs' hw1 hs1 hS hW hp bS bW hq
            generalize hc1 : cnt Wn pl k u = k1 at *
            have HC1 := hid hc1
            clear hc1
            generalize hc2 : cnt S pl k t = k2 at *
            have HC2 := hid hc2
            clear hc2
            go_wp2_with fail
            go_roundw
            case rel =>
              obtain ⟨hb', hs', hw1, hs1⟩ := Y.out
              refine ⟨k + 1, by omega, by go_num, (hb'.setCell (Nat.le_refl _) _).setCell (by simp) _, by simpa using hs', ((hw1.set u _).other (by simp) _).congr (fun v _ => by rw [← HC1.out]; exact cnt_yes HPL.out HU.out v), ((hs1.other (by simp) _).set t _).congr (fun v _ => by rw [← HC2.out]; exact cnt_yes HPL.out HT.out v)⟩
            case measure => simp [intOf]; omega
          · have HT := hid (show S k < 0 by omega)
            clear b3 b4 hb' hs' hw1 hs1 hS hW hp bS bW hq
            generalize hc1 : cnt Wn pl k u = k1 at *
            have HC1 := hid hc1
            clear hc1
            go_wp2_with fail
            go_roundw
            case rel =>
              obtain ⟨hb', hs', hw1, hs1⟩ := Y.out
              refine ⟨k + 1, by omega, by go_num, hb'.setCell (Nat.le_refl _) _, by simpa using hs', (hw1.set u _).congr (fun v _ => by rw [← HC1.out]; exact cnt_yes HPL.out HU.out v), (hs1.other (by simp) _).congr (fun v _ => cnt_no (.inr HT.out) v)⟩
            case measure => simp [intOf]; omega
        · have HU := hid (show Wn k < 0 by omega)
          clear b1 b2
          by_cases eS : 0 ≤ S k
          · obtain ⟨t, ht⟩ := Int.eq_ofNat_of_zero_le eS
            have c2 := cnt_bound S pl k t
            rw [ht] at y3 b4
            have x3 := hs1.cell (i := t) (by omega)
            have x4 := hs1.frozen t
            have HT := hid ht
            clear ht eS b3 hb' hs' hw1 hs1 hS hW hp bS bW hq
            generalize hc2 : cnt S pl k t = k2 at *
            have HC2 := hid hc2
            clear hc2
            go_wp2_with fail
            go_roundw
            case rel =>
              obtain ⟨hb', hs', hw1, hs1⟩ := Y.out
              refine ⟨k + 1, by omega, by go_num, hb'.setCell (by simp) _, by simpa using hs', (hw1.other (by simp) _).congr (fun v _ => cnt_no (.inr HU.out) v), (hs1.set t _).congr (fun v _ => by rw [← HC2.out]; exact cnt_yes HPL.out HT.out v)⟩
            case measure => simp [intOf]; omega
          · have HT := hid (show S k < 0 by omega)
            clear b3 b4 hb' hs' hw1 hs1 hS hW hp bS bW hq
            go_wp2_with fail
            go_roundw
            case rel =>
              obtain ⟨hb', hs', hw1, hs1⟩ := Y.out
              exact ⟨k + 1, by omega, by go_num, hb', hs', hw1.congr (fun v _ => cnt_no (.inr HU.out) v), hs1.congr (fun v _ => cnt_no (.inr HT.out) v)⟩
            case measure => simp [intOf]; omega
      · have HPL := hid hpl
        rw [hpl] at y1
        clear hpl hb' hs' hw1 hs1 hS hW hp bS bW hq
        go_wp2_with fail
        go_roundw
        case rel =>
          obtain ⟨hb', hs', hw1, hs1⟩ := Y.out
          exact ⟨k + 1, by omega, by go_num, hb', hs', hw1.congr (fun v _ => cnt_no (.inl HPL.out) v), hs1.congr (fun v _ => cnt_no (.inl HPL.out) v)⟩
        case measure => simp [intOf]; omega
    · have e : k = n := by omega
      subst e
      have Y := hid (And.intro hw1 (And.intro hs1 (And.intro hb' hs')))
      clear hb' hs' hw1 hs1 hS hW hp bS bW hq
      go_wp2_with fail
      go_ret2
      obtain ⟨hw1, hs1, hb', hs'⟩ := Y.out
      exact ⟨rfl, hw1, hs1, hb', hs'⟩

/-! ### zzValidOrder -/

/-- What the seen marks say when k entries have been met. -/
structure Seen (h k : Nat) (Z : Nat → Int) (sn : Nat → Bool) : Prop where
  lt : ∀ j, j < k → 0 ≤ Z j ∧ Z j < h
  inj : ∀ i j, i < k → j < k → Z i = Z j → i = j
  iff : ∀ e : Nat, e < h → (sn e = true ↔ ∃ j, j < k ∧ Z j = e)
  count : (List.range h).countP sn = k

theorem countP_upd (p : Nat → Bool) (e : Nat) (hp : p e = false) : ∀ h, (List.range h).countP (upd p e true) = (List.range h).countP p + (if e < h then 1 else 0) := by
  intro h
  induction h with
  | zero => simp
  | succ h ih =>
    rw [List.range_succ, List.countP_append, List.countP_append, ih]
    by_cases e1 : h = e
    · subst e1
      simp [upd_same, hp]
    · have e2 : upd p e true h = p h := upd_other e1
      simp only [List.countP_cons, List.countP_nil, e2]
      by_cases e3 : e < h
      · have e4 : e < h + 1 := by omega
        simp only [e3, e4, if_true]; omega
      · have e4 : ¬ e < h + 1 := by omega
        simp only [e3, e4, if_false]; omega

theorem Seen.start (h : Nat) (Z : Nat → Int) : Seen h 0 Z (fun _ => false) :=
  ⟨fun j hj => by omega, fun i j hi => by omega, fun e _ => ⟨fun q => (by cases q), fun ⟨j, hj, _⟩ => (by omega)⟩, by simp⟩

theorem Seen.step {h k : Nat} {Z : Nat → Int} {sn : Nat → Bool} (V : Seen h k Z sn) (e : Nat) (he : e < h) (hz : Z k = (e : Int)) (hn : sn e = false) : Seen h (k + 1) Z (upd sn e true) := by
  have hnot : ∀ j, j < k → Z j ≠ (e : Int) := fun j hj q => by
    have := (V.iff e he).2 ⟨j, hj, q⟩
    rw [hn] at this
    cases this
  refine ⟨fun j hj => ?_, fun i j hi hj hij => ?_, fun x hx => ?_, ?_⟩
  · by_cases q : j = k
    · subst q; rw [hz]; omega
    · exact V.lt j (by omega)
  · by_cases q1 : i = k
    · subst q1
      by_cases q2 : j = i
      · exact q2.symm
      · exact absurd (hij.symm.trans hz) (hnot j (by omega))
    · by_cases q2 : j = k
      · subst q2
        exact absurd (hij.trans hz) (hnot i (by omega))
      · exact V.inj i j (by omega) (by omega) hij
  · by_cases q : x = e
    · subst q
      rw [upd_same]
      exact ⟨fun _ => ⟨k, by omega, hz⟩, fun _ => rfl⟩
    · rw [upd_other q, V.iff x hx]
      constructor
      · rintro ⟨j, hj, hj2⟩; exact ⟨j, by omega, hj2⟩
      · rintro ⟨j, hj, hj2⟩
        refine ⟨j, ?_, hj2⟩
        by_cases q2 : j = k
        · subst q2; rw [hz] at hj2; omega
        · omega
  · rw [countP_upd sn e hn, V.count, if_pos he]

theorem Seen.done {h : Nat} {Z : Nat → Int} {sn : Nat → Bool} (V : Seen h h Z sn) : (∀ j, j < h → 0 ≤ Z j ∧ Z j < h) ∧ Perm h (fun j => (Z j).toNat) := by
  refine ⟨V.lt, fun j hj => ?_, fun i j hi hj e => ?_, fun e he => ?_⟩
  · have := V.lt j hj; show (Z j).toNat < h; omega
  · have h1 := V.lt i hi
    have h2 := V.lt j hj
    exact V.inj i j hi hj (by have e' : (Z i).toNat = (Z j).toNat := e; omega)
  · have hall : ∀ x ∈ List.range h, sn x = true := List.countP_eq_length.1 (by rw [V.count, List.length_range])
    obtain ⟨j, hj, hje⟩ := (V.iff e he).1 (hall e (by simpa using he))
    exact ⟨j, hj, by show (Z j).toNat = e; omega⟩

set_option maxHeartbeats 4000000 in
/-- zzValidOrder: true only for a permutation of an even number of entries. -/
theorem valid_any (a : Option Addr) (h c : Nat) (Z : Nat → Int) (w : World) (hm : h ≤ 262144) (hr : RowI w a h Z) :
    Calls Tryd.prog 6 #[.slice a h c] w fun e w' => BoolIf (h % 2 = 0 ∧ (∀ j, j < h → 0 ≤ Z j ∧ Z j < h) ∧ Perm h (fun j => (Z j).toNat)) e ∧ Below w.heap.size w w' := by
  have R := hid hr
  clear hr
  have hmk := run_make_row' (P := Tryd.prog) 31 4 (.bool false) 1 Tryd.underlying31 Tryd.info4 rfl .i64 .i64 h (by omega) (by omega)
  by_cases hpar : h % 2 = 0
  · have e0 : (((h : Int) % 2) != 0) = false := by rw [bne_eq_false_iff_eq]; omega
    have HPAR := hid hpar
    clear hpar
    go_enter Tryd.func6, Tryd.ntmps6
    go_wp2_with fail
    go_loopw [5, 6] (fun nc j w' => ∃ k q : Nat, k ≤ h ∧ q ≤ k ∧ j = .int .i64 k ∧ nc = .int .i64 q ∧ Hid (Below w.heap.size w w' ∧ ∃ sn, RB w' w.heap.size h sn ∧ Seen h k Z sn)) (fun _ j _ => h - (intOf j).toNat)
    case atStart => exact ⟨0, 0, Nat.zero_le _, Nat.le_refl _, rfl, rfl, (Below.refl _ _).alloc (Nat.le_refl _) _, _, World.rowIs_made w (.bool false) h 4, Seen.start h Z⟩
    case round =>
      obtain ⟨k, q, hk, hqk, rfl, rfl, hq⟩ := hrel
      obtain ⟨hb', sn, hsn, hS⟩ := hq.out
      by_cases hlt : k < h
      · obtain ⟨b3, o3, rfl, q3⟩ := R.out.later hb' k hlt
        generalize hz0 : Z k = z at *
        have HZ := hid hz0
        have HB := hid hb'
        have HSN := hid hsn
        have HS := hid hS
        clear hz0 hq
        by_cases z0 : z < 0
        · clear hb' hsn hS
          go_wp2_with fail
          all_goals (go_ret; exact ⟨BoolIf.no _, HB.out⟩)
        by_cases z1 : (h : Int) ≤ z
        · clear hb' hsn hS
          go_wp2_with fail
          all_goals (go_ret; exact ⟨BoolIf.no _, HB.out⟩)
        obtain ⟨u, rfl⟩ : ∃ u : Nat, z = (u : Int) := Int.eq_ofNat_of_zero_le (by omega)
        have x1 := hsn.cell (i := u) (by omega)
        have x2 := hsn.frozen u
        cases hsu : sn u
        · have HSU := hid hsu
          rw [hsu] at x1
          clear hsu
          by_cases ev : u % 2 = 0
          · have e1 : (((u : Int) % 2) == 0) = true := beq_iff_eq.2 (by omega)
            by_cases e2 : u = 2 * q
            · have e3 : ((u : Int) != 2 * (q : Int)) = false := by rw [bne_eq_false_iff_eq]; omega
              clear ev e2 hb' hsn hS
              go_wp2_with fail
              all_goals try (go_ret; exact ⟨BoolIf.no _, HB.out⟩)
              go_roundw
              case rel => exact ⟨k + 1, q + 1, by omega, by omega, by go_num, by go_num, HB.out.setCell (Nat.le_refl _) _, _, HSN.out.set u true, HS.out.step u (by omega) HZ.out HSU.out⟩
              case measure => simp [intOf]; omega
            · have e3 : ((u : Int) != 2 * (q : Int)) = true := by rw [bne_iff_ne]; omega
              clear ev e2 hb' hsn hS
              go_wp2_with fail
              all_goals (go_ret; exact ⟨BoolIf.no _, HB.out⟩)
          · have e1 : (((u : Int) % 2) == 0) = false := beq_eq_false_iff_ne.2 (by omega)
            obtain ⟨t, rfl⟩ : ∃ t, u = t + 1 := ⟨u - 1, by omega⟩
            have x3 := hsn.cell (i := t) (by omega)
            clear ev
            rw [show ((t + 1 : Nat) : Int) = (t : Int) + 1 from by omega] at *
            cases hst : sn t
            · rw [hst] at x3
              clear hb' hsn hS hst
              go_wp2_with fail
              all_goals (go_ret; exact ⟨BoolIf.no _, HB.out⟩)
            · rw [hst] at x3
              clear hb' hsn hS hst
              go_wp2_with fail
              all_goals try (go_ret; exact ⟨BoolIf.no _, HB.out⟩)
              go_roundw
              case rel => exact ⟨k + 1, q, by omega, by omega, by go_num, rfl, HB.out.setCell (Nat.le_refl _) _, _, HSN.out.set (t + 1) true, HS.out.step (t + 1) (by omega) HZ.out HSU.out⟩
              case measure => simp [intOf]; omega
        · rw [hsu] at x1
          clear hb' hsn hS hsu
          go_wp2_with fail
          all_goals (go_ret; exact ⟨BoolIf.no _, HB.out⟩)
      · have e : k = h := by omega
        subst e
        have Y := hid (And.intro hb' hS.done)
        clear hb' hS hsn hq
        go_wp2_with fail
        go_ret
        exact ⟨BoolIf.yes ⟨HPAR.out, Y.out.2⟩, Y.out.1⟩
  · have e0 : (((h : Int) % 2) != 0) = true := by rw [bne_iff_ne]; omega
    clear hpar
    go_enter Tryd.func6, Tryd.ntmps6
    go_wp2_with fail
    go_ret
    exact ⟨BoolIf.no _, Below.refl _ _⟩

end Go.Proofs.Qxb6614338aDoor
