import Derived.Test.Qxb6614207aStack
namespace Go.Proofs.Qxb6614207a
open Go.RowKit

set_option maxRecDepth 1000000 in
set_option maxHeartbeats 16000000 in
theorem build_any (a0 : Option Addr) (len cap : Nat) (Z : Nat → Int) (w : World) (hlen : len ≤ 65536)
    (hc : ∀ i, i < len → ∃ b off, a0 = some ⟨b, off, none⟩ ∧ w.cell? ⟨b, off + i, none⟩ = some (.int .u8 (Z i))) :
    Calls Try.prog 8 #[.slice a0 len cap] w fun e w' => ∃ v N B, e = .returned v ∧ Rep B w' N v (hasZ Z len) ∧ Below w.heap.size w w' := by
  obtain ⟨i0, hi, hz0, hz1, hz2⟩ := info_parts Try.info26
  go_enter Try.func8, Try.ntmps8
  go_wp2_with (at_make; refine wpList_make_own _ rfl _ _ 38 rfl w.heap.size 26 i0 .nilIface 1 Try.underlying38 hi hz0 hz1 _ _ _ (len + 1) rfl rfl (by omega) ?b1 ?b2 ?b3 ?_)
  case b1 => rw [hz2]; omega
  case b2 => unfold maxLen; omega
  case b3 => exact Nat.le_refl _
  intro w1 hown1 hgrow1
  have HC := hid hc
  clear hc
  go_wp2_with fail
  go_loopw [3, 4] (fun s j wr => ∃ k n : Nat, k ≤ len ∧ n ≤ k ∧ s = .slice (some ⟨w.heap.size, 0, none⟩) n (len + 1) ∧ j = .int .i64 k ∧ Hid (Inv w.heap.size len w wr n (hasZ Z k)))
    (fun _ j _ => len - (intOf j).toNat)
  case atStart => exact ⟨0, 0, by omega, by omega, rfl, rfl, ⟨[], 0, hown1, rfl, (Below.refl _ _).grown hgrow1 (Nat.le_refl _) (fun _ h => by cases h)⟩⟩
  case round =>
    obtain ⟨k, n, hk, hn, rfl, rfl, hinv⟩ := hrel
    clear hown1 hgrow1
    by_cases hlt : k < len
    · obtain ⟨b, off, rfl, hck0⟩ := HC.out k hlt
      obtain ⟨xs, N, hown, hreps, hbel⟩ := hinv.out
      have hck : wr.cell? ⟨b, off + k, none⟩ = some (.int .u8 (Z k)) := cell_later hbel hck0
      have hreps' := hid hreps
      have hown' := hid hown
      have hbel' := hid hbel
      clear hreps hown hbel hck0 hinv
      generalize hZ0 : Z k = z at *
      have hZ := hid hZ0
      clear hZ0
      have hn0 : ∀ m : Int, z ≠ m → (z == m) = false := fun m h => beq_eq_false_iff_ne.2 h
      by_cases h0 : z = 0
      · as_aux_lemma =>
        have hzz := hid h0
        clear h0
        have e0 : (z == 0) = true := beq_iff_eq.2 hzz.out
        clear hn0
        go_wp2_with (at_builtin; refine wpList_append_own_spare _ rfl _ _ 38 rfl w.heap.size 26 i0 1 Try.underlying38 hi hz1 w.heap.size n (len + 1) xs rfl ((hown'.out.alloc _).alloc _) ⟨wr.heap.size + 1, 0, none⟩ 1 1 [.iface 32 (.pointer (some ⟨wr.heap.size, 0, none⟩))] rfl rfl (one_new2 _ _ _ _) (oneCell_iface _ _) (by omega) ?_)
        intro w2 hown2 hgrow2
        have hown2' := hid hown2
        have hgrow2' := hid hgrow2
        clear hown2 hgrow2
        go_wp2_with fail
        go_roundw
        case rel => exact ⟨k + 1, n + 1, by omega, by omega, rfl, by go_num, by rw [hasZ_succ, hZ.out, hzz.out]; exact inv_push hown2'.out hgrow2'.out hreps'.out (.inl ⟨_, rfl, rfl⟩) hbel'.out (Inv.lt hown'.out)⟩
        case measure => simp [intOf]; omega
      by_cases h1 : z = 1
      · as_aux_lemma =>
        have hzz := hid h1
        clear h1
        have e0 : (z == 0) = false := hn0 0 (by rw [hzz.out]; decide)
        have e1 : (z == 1) = true := beq_iff_eq.2 hzz.out
        clear hn0
        go_wp2_with (at_builtin; refine wpList_append_own_spare _ rfl _ _ 38 rfl w.heap.size 26 i0 1 Try.underlying38 hi hz1 w.heap.size n (len + 1) xs rfl ((hown'.out.alloc _).alloc _) ⟨wr.heap.size + 1, 0, none⟩ 1 1 [.iface 33 (.pointer (some ⟨wr.heap.size, 0, none⟩))] rfl rfl (one_new2 _ _ _ _) (oneCell_iface _ _) (by omega) ?_)
        intro w2 hown2 hgrow2
        have hown2' := hid hown2
        have hgrow2' := hid hgrow2
        clear hown2 hgrow2
        go_wp2_with fail
        go_roundw
        case rel => exact ⟨k + 1, n + 1, by omega, by omega, rfl, by go_num, by rw [hasZ_succ, hZ.out, hzz.out]; exact inv_push hown2'.out hgrow2'.out hreps'.out (.inr (.inl ⟨_, rfl, rfl⟩)) hbel'.out (Inv.lt hown'.out)⟩
        case measure => simp [intOf]; omega
      by_cases h2 : z = 2
      · as_aux_lemma =>
        have hzz := hid h2
        clear h2
        have e0 : (z == 0) = false := hn0 0 (by rw [hzz.out]; decide)
        have e1 : (z == 1) = false := hn0 1 (by rw [hzz.out]; decide)
        have e2 : (z == 2) = true := beq_iff_eq.2 hzz.out
        clear hn0
        go_wp2_with (at_builtin; refine wpList_append_own_spare _ rfl _ _ 38 rfl w.heap.size 26 i0 1 Try.underlying38 hi hz1 w.heap.size n (len + 1) xs rfl ((hown'.out.alloc _).alloc _) ⟨wr.heap.size + 1, 0, none⟩ 1 1 [.iface 34 (.pointer (some ⟨wr.heap.size, 0, none⟩))] rfl rfl (one_new2 _ _ _ _) (oneCell_iface _ _) (by omega) ?_)
        intro w2 hown2 hgrow2
        have hown2' := hid hown2
        have hgrow2' := hid hgrow2
        clear hown2 hgrow2
        go_wp2_with fail
        go_roundw
        case rel => exact ⟨k + 1, n + 1, by omega, by omega, rfl, by go_num, by rw [hasZ_succ, hZ.out, hzz.out]; exact inv_push hown2'.out hgrow2'.out hreps'.out (.inr (.inr (.inl ⟨_, rfl, rfl⟩))) hbel'.out (Inv.lt hown'.out)⟩
        case measure => simp [intOf]; omega
      by_cases h3 : z = 3
      · as_aux_lemma =>
        have hzz := hid h3
        clear h3
        have e0 : (z == 0) = false := hn0 0 (by rw [hzz.out]; decide)
        have e1 : (z == 1) = false := hn0 1 (by rw [hzz.out]; decide)
        have e2 : (z == 2) = false := hn0 2 (by rw [hzz.out]; decide)
        have e3 : (z == 3) = true := beq_iff_eq.2 hzz.out
        clear hn0
        go_wp2_with (at_builtin; refine wpList_append_own_spare _ rfl _ _ 38 rfl w.heap.size 26 i0 1 Try.underlying38 hi hz1 w.heap.size n (len + 1) xs rfl ((hown'.out.alloc _).alloc _) ⟨wr.heap.size + 1, 0, none⟩ 1 1 [.iface 35 (.pointer (some ⟨wr.heap.size, 0, none⟩))] rfl rfl (one_new2 _ _ _ _) (oneCell_iface _ _) (by omega) ?_)
        intro w2 hown2 hgrow2
        have hown2' := hid hown2
        have hgrow2' := hid hgrow2
        clear hown2 hgrow2
        go_wp2_with fail
        go_roundw
        case rel => exact ⟨k + 1, n + 1, by omega, by omega, rfl, by go_num, by rw [hasZ_succ, hZ.out, hzz.out]; exact inv_push hown2'.out hgrow2'.out hreps'.out (.inr (.inr (.inr (.inl ⟨_, rfl, rfl⟩)))) hbel'.out (Inv.lt hown'.out)⟩
        case measure => simp [intOf]; omega
      by_cases h4 : z = 4
      · as_aux_lemma =>
        have hzz := hid h4
        clear h4
        have e0 : (z == 0) = false := hn0 0 (by rw [hzz.out]; decide)
        have e1 : (z == 1) = false := hn0 1 (by rw [hzz.out]; decide)
        have e2 : (z == 2) = false := hn0 2 (by rw [hzz.out]; decide)
        have e3 : (z == 3) = false := hn0 3 (by rw [hzz.out]; decide)
        have e4 : (z == 4) = true := beq_iff_eq.2 hzz.out
        clear hn0
        by_cases hn1 : 1 ≤ n
        · obtain ⟨m, hm⟩ : ∃ m, n = m + 1 := ⟨n - 1, by omega⟩
          subst hm
          obtain ⟨ys, x, hxs⟩ : ∃ ys x, xs = ys ++ [x] := snoc_of_length (m := m) (by have := hown'.out.1; omega)
          subst hxs
          have hf := hown'.out.frozenAt
          have hl := hown'.out.1
          have hx : wr.cell? ⟨w.heap.size, m, none⟩ = some x := by rw [hown'.out.cellAt m (by omega)]; simp at hl; simp [← hl]
          have hw0 := Inv.lt hown'.out
          clear hl
          obtain ⟨tx, px, rfl⟩ := hreps'.out.iface x (by simp)
          go_wp2_with fail
          go_roundw
          case rel => exact ⟨k + 1, m + 1, by omega, by omega, rfl, by go_num, by rw [hasZ_succ, hZ.out, hzz.out]; exact inv_unary hown'.out hreps'.out hbel'.out⟩
          case measure => simp [intOf]; omega
        · go_wp2_with fail
          go_roundw
          case rel => exact ⟨k + 1, n, by omega, by omega, rfl, by go_num, by rw [hasZ_succ, hZ.out, hzz.out]; exact inv_same hown'.out hreps'.out hbel'.out⟩
          case measure => simp [intOf]; omega
      by_cases h5 : z = 5
      · as_aux_lemma =>
        have hzz := hid h5
        clear h5
        have e0 : (z == 0) = false := hn0 0 (by rw [hzz.out]; decide)
        have e1 : (z == 1) = false := hn0 1 (by rw [hzz.out]; decide)
        have e2 : (z == 2) = false := hn0 2 (by rw [hzz.out]; decide)
        have e3 : (z == 3) = false := hn0 3 (by rw [hzz.out]; decide)
        have e4 : (z == 4) = false := hn0 4 (by rw [hzz.out]; decide)
        have e5 : (z == 5) = true := beq_iff_eq.2 hzz.out
        clear hn0
        by_cases hn1 : 2 ≤ n
        · obtain ⟨m, hm⟩ : ∃ m, n = m + 2 := ⟨n - 2, by omega⟩
          subst hm
          obtain ⟨ys, x, y, hxs⟩ : ∃ ys x y, xs = ys ++ [x, y] := snoc2_of_length (m := m) (by have := hown'.out.1; omega)
          subst hxs
          have hf := hown'.out.frozenAt
          have hl := hown'.out.1
          have hx : wr.cell? ⟨w.heap.size, m, none⟩ = some x := by rw [hown'.out.cellAt m (by omega)]; simp at hl; simp [← hl]
          have hy : wr.cell? ⟨w.heap.size, m + 1, none⟩ = some y := by rw [hown'.out.cellAt (m + 1) (by omega)]; simp at hl; simp [← hl]
          have hw0 := Inv.lt hown'.out
          clear hl
          obtain ⟨tx, px, rfl⟩ := hreps'.out.iface x (by simp)
          obtain ⟨ty, py, rfl⟩ := hreps'.out.iface y (by simp)
          go_wp2_with fail
          go_region
          go_wp2_with fail
          go_roundw
          case rel => exact ⟨k + 1, m + 1, by omega, by omega, rfl, by go_num, by rw [hasZ_succ, hZ.out, hzz.out]; exact inv_binary hown'.out hreps'.out hbel'.out⟩
          case measure => simp [intOf]; omega
        · go_wp2_with fail
          go_roundw
          case rel => exact ⟨k + 1, n, by omega, by omega, rfl, by go_num, by rw [hasZ_succ, hZ.out, hzz.out]; exact inv_same hown'.out hreps'.out hbel'.out⟩
          case measure => simp [intOf]; omega
      by_cases h6 : z = 6
      · as_aux_lemma =>
        have hzz := hid h6
        clear h6
        have e0 : (z == 0) = false := hn0 0 (by rw [hzz.out]; decide)
        have e1 : (z == 1) = false := hn0 1 (by rw [hzz.out]; decide)
        have e2 : (z == 2) = false := hn0 2 (by rw [hzz.out]; decide)
        have e3 : (z == 3) = false := hn0 3 (by rw [hzz.out]; decide)
        have e4 : (z == 4) = false := hn0 4 (by rw [hzz.out]; decide)
        have e5 : (z == 5) = false := hn0 5 (by rw [hzz.out]; decide)
        have e6 : (z == 6) = true := beq_iff_eq.2 hzz.out
        clear hn0
        by_cases hn1 : 1 ≤ n
        · obtain ⟨m, hm⟩ : ∃ m, n = m + 1 := ⟨n - 1, by omega⟩
          subst hm
          obtain ⟨ys, x, hxs⟩ : ∃ ys x, xs = ys ++ [x] := snoc_of_length (m := m) (by have := hown'.out.1; omega)
          subst hxs
          have hf := hown'.out.frozenAt
          have hl := hown'.out.1
          have hx : wr.cell? ⟨w.heap.size, m, none⟩ = some x := by rw [hown'.out.cellAt m (by omega)]; simp at hl; simp [← hl]
          have hw0 := Inv.lt hown'.out
          clear hl
          obtain ⟨tx, px, rfl⟩ := hreps'.out.iface x (by simp)
          go_wp2_with fail
          go_roundw
          case rel => exact ⟨k + 1, m + 1, by omega, by omega, rfl, by go_num, by rw [hasZ_succ, hZ.out, hzz.out]; exact inv_isnull hown'.out hreps'.out hbel'.out⟩
          case measure => simp [intOf]; omega
        · go_wp2_with fail
          go_roundw
          case rel => exact ⟨k + 1, n, by omega, by omega, rfl, by go_num, by rw [hasZ_succ, hZ.out, hzz.out]; exact inv_same hown'.out hreps'.out hbel'.out⟩
          case measure => simp [intOf]; omega
      by_cases h7 : z = 7
      · as_aux_lemma =>
        have hzz := hid h7
        clear h7
        have e0 : (z == 0) = false := hn0 0 (by rw [hzz.out]; decide)
        have e1 : (z == 1) = false := hn0 1 (by rw [hzz.out]; decide)
        have e2 : (z == 2) = false := hn0 2 (by rw [hzz.out]; decide)
        have e3 : (z == 3) = false := hn0 3 (by rw [hzz.out]; decide)
        have e4 : (z == 4) = false := hn0 4 (by rw [hzz.out]; decide)
        have e5 : (z == 5) = false := hn0 5 (by rw [hzz.out]; decide)
        have e6 : (z == 6) = false := hn0 6 (by rw [hzz.out]; decide)
        have e7 : (z == 7) = true := beq_iff_eq.2 hzz.out
        clear hn0
        by_cases hn1 : 3 ≤ n
        · obtain ⟨m, hm⟩ : ∃ m, n = m + 3 := ⟨n - 3, by omega⟩
          subst hm
          obtain ⟨ys, x, y, v, hxs⟩ : ∃ ys x y v, xs = ys ++ [x, y, v] := snoc3_of_length (m := m) (by have := hown'.out.1; omega)
          subst hxs
          have hf := hown'.out.frozenAt
          have hl := hown'.out.1
          have hx : wr.cell? ⟨w.heap.size, m, none⟩ = some x := by rw [hown'.out.cellAt m (by omega)]; simp at hl; simp [← hl]
          have hy : wr.cell? ⟨w.heap.size, m + 1, none⟩ = some y := by rw [hown'.out.cellAt (m + 1) (by omega)]; simp at hl; simp [← hl]
          have hv : wr.cell? ⟨w.heap.size, m + 2, none⟩ = some v := by rw [hown'.out.cellAt (m + 2) (by omega)]; simp at hl; simp [← hl]
          have hw0 := Inv.lt hown'.out
          clear hl
          obtain ⟨tx, px, rfl⟩ := hreps'.out.iface x (by simp)
          obtain ⟨ty, py, rfl⟩ := hreps'.out.iface y (by simp)
          obtain ⟨tv, pv, rfl⟩ := hreps'.out.iface v (by simp)
          go_wp2_with fail
          go_region
          go_wp2_with fail
          go_roundw
          case rel => exact ⟨k + 1, m + 1, by omega, by omega, rfl, by go_num, by rw [hasZ_succ, hZ.out, hzz.out]; exact inv_between hown'.out hreps'.out hbel'.out⟩
          case measure => simp [intOf]; omega
        · go_wp2_with fail
          go_roundw
          case rel => exact ⟨k + 1, n, by omega, by omega, rfl, by go_num, by rw [hasZ_succ, hZ.out, hzz.out]; exact inv_same hown'.out hreps'.out hbel'.out⟩
          case measure => simp [intOf]; omega
      by_cases h8 : z = 8
      · as_aux_lemma =>
        have hzz := hid h8
        clear h8
        have e0 : (z == 0) = false := hn0 0 (by rw [hzz.out]; decide)
        have e1 : (z == 1) = false := hn0 1 (by rw [hzz.out]; decide)
        have e2 : (z == 2) = false := hn0 2 (by rw [hzz.out]; decide)
        have e3 : (z == 3) = false := hn0 3 (by rw [hzz.out]; decide)
        have e4 : (z == 4) = false := hn0 4 (by rw [hzz.out]; decide)
        have e5 : (z == 5) = false := hn0 5 (by rw [hzz.out]; decide)
        have e6 : (z == 6) = false := hn0 6 (by rw [hzz.out]; decide)
        have e7 : (z == 7) = false := hn0 7 (by rw [hzz.out]; decide)
        have e8 : (z == 8) = true := beq_iff_eq.2 hzz.out
        clear hn0
        by_cases hn1 : 1 ≤ n
        · obtain ⟨m, hm⟩ : ∃ m, n = m + 1 := ⟨n - 1, by omega⟩
          subst hm
          obtain ⟨ys, x, hxs⟩ : ∃ ys x, xs = ys ++ [x] := snoc_of_length (m := m) (by have := hown'.out.1; omega)
          subst hxs
          have hl := hown'.out.1
          have hl2 := hid (show ys.length = m by simp at hl; omega)
          have hx := hid (show wr.cell? ⟨w.heap.size, m, none⟩ = some x by rw [hown'.out.cellAt m (by omega)]; simp at hl; simp [← hl])
          have hys := hid (show ∀ j v, ys[j]? = some v → wr.cell? ⟨w.heap.size, j, none⟩ = some v from fun j v hj => by
            have hj' := (List.getElem?_eq_some_iff.1 hj).1
            rw [hown'.out.cellAt j (by have := hl2.out; omega), List.getElem?_append_left hj']; exact hj)
          have hw0 := Inv.lt hown'.out
          clear hl
          obtain ⟨tx, px, rfl⟩ := hreps'.out.iface x (by simp)
          have hmk := run_make_row' (P := Try.prog) 38 26 .nilIface 16 Try.underlying38 Try.info26 rfl .i64 .i64 m (by omega) (by omega)
          have hbw := hid ((Below.refl wr.heap.size wr).alloc (Nat.le_refl _) (.cells (madeCells #[.nilIface] m) 26))
          have hone := hid (show ∀ v ∈ ys, v.oneCell' = true from fun v hv => hreps'.out.oneCell v (by simp [hv]))
          have hsrc := hid (show ∀ j v, ys[j]? = some v → (wr.alloc (.cells (madeCells #[.nilIface] m) 26)).cell? ((⟨w.heap.size, 0, none⟩ : Addr).add j) = some v from fun j v hj => by rw [Addr.add_lit, Nat.zero_add]; exact cell_later hbw.out (hys.out j v hj))
          go_wp2_with (refine wpList_copy_splice rfl (.tmp 162) (.tmp 166) 38 38 rfl 26 Try.underlying38 size26 _ _ _ _ _ _ rfl rfl wr.heap.size 0 (List.replicate m .nilIface) 26 (made_heap _ _) ys (by rw [hl2.out]; exact (Nat.min_self _).symm) (fun _ => ⟨rfl, _, rfl, hsrc.out⟩) (by simp [hl2.out]) hone.out wr.heap.size wr hbw.out (Nat.le_refl _) ?_)
          intro w3 hg3 hb3
          have hb3' := hid hb3
          have hx3 : w3.cell? ⟨w.heap.size, m, none⟩ = some (.iface tx (.pointer px)) := cell_later hb3 hx.out
          obtain ⟨v0, hv0⟩ := owns_first hown'.out (by omega)
          have hv3 : w3.cell? ⟨w.heap.size, 0, none⟩ = some v0 := cell_later hb3 hv0
          have hf3 : ∀ j, w3.frozen? ⟨w.heap.size, j, none⟩ = false := fun j => (hb3.frozen (p := ⟨w.heap.size, j, none⟩) hw0).trans (hown'.out.frozenAt j)
          have hs3 : wr.heap.size < w3.heap.size := lt_of_heap hg3.out
          have hs4 : w.heap.size < w3.heap.size := by omega
          clear hb3 hmk hv0
          go_wp2_with fail
          go_roundw
          case rel => exact ⟨k + 1, 1, by omega, by omega, rfl, by go_num, by rw [hasZ_succ, hZ.out, hzz.out]; exact inv_in hown'.out hreps'.out hbel'.out hb3'.out hs3 hg3.out (by omega)⟩
          case measure => simp [intOf]; omega
        · go_wp2_with fail
          go_roundw
          case rel => exact ⟨k + 1, n, by omega, by omega, rfl, by go_num, by rw [hasZ_succ, hZ.out, hzz.out]; exact inv_same hown'.out hreps'.out hbel'.out⟩
          case measure => simp [intOf]; omega
      by_cases h9 : z = 9
      · as_aux_lemma =>
        have hzz := hid h9
        clear h9
        have e0 : (z == 0) = false := hn0 0 (by rw [hzz.out]; decide)
        have e1 : (z == 1) = false := hn0 1 (by rw [hzz.out]; decide)
        have e2 : (z == 2) = false := hn0 2 (by rw [hzz.out]; decide)
        have e3 : (z == 3) = false := hn0 3 (by rw [hzz.out]; decide)
        have e4 : (z == 4) = false := hn0 4 (by rw [hzz.out]; decide)
        have e5 : (z == 5) = false := hn0 5 (by rw [hzz.out]; decide)
        have e6 : (z == 6) = false := hn0 6 (by rw [hzz.out]; decide)
        have e7 : (z == 7) = false := hn0 7 (by rw [hzz.out]; decide)
        have e8 : (z == 8) = false := hn0 8 (by rw [hzz.out]; decide)
        have e9 : (z == 9) = true := beq_iff_eq.2 hzz.out
        clear hn0
        have hl2 := hid (show xs.length = n by have := hown'.out.1; omega)
        have hys := hid (show ∀ j v, xs[j]? = some v → wr.cell? ⟨w.heap.size, j, none⟩ = some v from fun j v hj => by
          have hj' := (List.getElem?_eq_some_iff.1 hj).1
          rw [hown'.out.cellAt j (by have := hl2.out; omega)]; exact hj)
        have hw0 := Inv.lt hown'.out
        have hmk := run_make_row' (P := Try.prog) 38 26 .nilIface 16 Try.underlying38 Try.info26 rfl .i64 .i64 n (by omega) (by omega)
        have hbw := hid ((Below.refl wr.heap.size wr).alloc (Nat.le_refl _) (.cells (madeCells #[.nilIface] n) 26))
        have hone := hid hreps'.out.oneCell
        have hsrc := hid (show ∀ j v, xs[j]? = some v → (wr.alloc (.cells (madeCells #[.nilIface] n) 26)).cell? ((⟨w.heap.size, 0, none⟩ : Addr).add j) = some v from fun j v hj => by rw [Addr.add_lit, Nat.zero_add]; exact cell_later hbw.out (hys.out j v hj))
        go_wp2_with (refine wpList_copy_splice rfl (.tmp 186) (.tmp 187) 38 38 rfl 26 Try.underlying38 size26 _ _ _ _ _ _ rfl rfl wr.heap.size 0 (List.replicate n .nilIface) 26 (made_heap _ _) xs (by rw [hl2.out]; exact (Nat.min_self _).symm) (fun _ => ⟨rfl, _, rfl, hsrc.out⟩) (by simp [hl2.out]) hone.out wr.heap.size wr hbw.out (Nat.le_refl _) ?_)
        intro w3 hg3 hb3
        have hb3' := hid hb3
        have hown3 := hid (owns_cut (owns_below hown'.out hb3) (Nat.zero_le _))
        have hs3 : wr.heap.size < w3.heap.size := lt_of_heap hg3.out
        clear hb3 hmk
        go_wp2_with (at_builtin; refine wpList_append_own_spare _ rfl _ _ 38 rfl w.heap.size 26 i0 1 Try.underlying38 hi hz1 w.heap.size 0 (len + 1) _ rfl ((hown3.out.alloc _).alloc _) ⟨w3.heap.size + 1, 0, none⟩ 1 1 [.iface 36 (.pointer (some ⟨w3.heap.size, 0, none⟩))] rfl rfl (one_new2 _ _ _ _) (oneCell_iface _ _) (by omega) ?_)
        intro w4 hown4 hgrow4
        have hown4' := hid hown4
        have hgrow4' := hid hgrow4
        clear hown4 hgrow4
        go_wp2_with fail
        go_roundw
        case rel => exact ⟨k + 1, 1, by omega, by omega, rfl, by go_num, by rw [hasZ_succ, hZ.out, hzz.out]; exact inv_call hown'.out hreps'.out hbel'.out hb3'.out hs3 hg3.out (by omega) hown4'.out hgrow4'.out⟩
        case measure => simp [intOf]; omega
      have hzz := hid h0
      have e0 := hn0 0 h0
      have e1 := hn0 1 h1
      have e2 := hn0 2 h2
      have e3 := hn0 3 h3
      have e4 := hn0 4 h4
      have e5 := hn0 5 h5
      have e6 := hn0 6 h6
      have e7 := hn0 7 h7
      have e8 := hn0 8 h8
      have e9 := hn0 9 h9
      clear hn0 h0 h1 h2 h3 h4 h5 h6 h7 h8 h9
      go_wp2_with fail
      go_roundw
      case rel => exact ⟨k + 1, n, by omega, by omega, rfl, by go_num, by rw [hasZ_succ, hZ.out, beq_eq_false_iff_ne.2 hzz.out]; exact inv_same hown'.out hreps'.out hbel'.out⟩
      case measure => simp [intOf]; omega
    · as_aux_lemma =>
      obtain ⟨xs, N, hown, hreps, hbel⟩ := hinv.out
      have hreps' := hid hreps
      have hown' := hid hown
      have hbel' := hid hbel
      have hkl := hid (show k = len by omega)
      clear hreps hown hbel hinv
      by_cases h1 : n = 1
      · subst h1
        obtain ⟨ys, x, hxs⟩ : ∃ ys x, xs = ys ++ [x] := snoc_of_length (m := 0) (by have := hown'.out.1; omega)
        have hl : ys = [] := List.eq_nil_of_length_eq_zero (by have := hown'.out.1; rw [hxs] at this; simpa using this)
        subst hl
        simp only [List.nil_append] at hxs
        subst hxs
        have hx : wr.cell? ⟨w.heap.size, 0, none⟩ = some x := by rw [hown'.out.cellAt 0 (by omega)]; rfl
        go_wp2_with fail
        go_ret
        exact ⟨x, N, w.heap.size, rfl, by rw [← hkl.out]; exact Reps.one.1 hreps'.out, hbel'.out⟩
      · have hn1 : ((n : Int) == 1) = false := beq_eq_false_iff_ne.2 (by omega)
        clear h1
        have hl2 := hid (show xs.length = n by have := hown'.out.1; omega)
        have hys := hid (show ∀ j v, xs[j]? = some v → wr.cell? ⟨w.heap.size, j, none⟩ = some v from fun j v hj => by
          have hj' := (List.getElem?_eq_some_iff.1 hj).1
          rw [hown'.out.cellAt j (by have := hl2.out; omega)]; exact hj)
        have hw0 := Inv.lt hown'.out
        have hmk := run_make_row' (P := Try.prog) 38 26 .nilIface 16 Try.underlying38 Try.info26 rfl .i64 .i64 n (by omega) (by omega)
        have hbw := hid ((Below.refl wr.heap.size wr).alloc (Nat.le_refl _) (.cells (madeCells #[.nilIface] n) 26))
        have hone := hid hreps'.out.oneCell
        have hsrc := hid (show ∀ j v, xs[j]? = some v → (wr.alloc (.cells (madeCells #[.nilIface] n) 26)).cell? ((⟨w.heap.size, 0, none⟩ : Addr).add j) = some v from fun j v hj => by rw [Addr.add_lit, Nat.zero_add]; exact cell_later hbw.out (hys.out j v hj))
        go_wp2_with (refine wpList_copy_splice rfl (.tmp 207) (.tmp 208) 38 38 rfl 26 Try.underlying38 size26 _ _ _ _ _ _ rfl rfl wr.heap.size 0 (List.replicate n .nilIface) 26 (made_heap _ _) xs (by rw [hl2.out]; exact (Nat.min_self _).symm) (fun _ => ⟨rfl, _, rfl, hsrc.out⟩) (by simp [hl2.out]) hone.out wr.heap.size wr hbw.out (Nat.le_refl _) ?_)
        intro w3 hg3 hb3
        have hb3' := hid hb3
        have hs3 : wr.heap.size < w3.heap.size := lt_of_heap hg3.out
        clear hb3 hmk
        go_wp2_with fail
        go_ret
        exact ⟨_, N + 1, w.heap.size, rfl, by rw [← hkl.out]; exact end_call hown'.out hreps'.out hb3'.out hs3 hg3.out (by omega), end_below hown'.out hbel'.out hb3'.out⟩

end Go.Proofs.Qxb6614207a
