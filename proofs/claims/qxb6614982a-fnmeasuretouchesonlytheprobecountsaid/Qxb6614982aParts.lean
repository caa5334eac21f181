import Derived.Test.Qxb6614982aProg
import Derived.Test.Qxb6614982aFloats
import Derived.WalkKit
import Derived.WalkSpells
import Derived.WalkLawsBesides
import Derived.Deep.OwnRows
import Derived.Deep.QuietTactic
import Derived.BigQuiet
import Derived.Laws.EntriesVeiled
namespace Go.Proofs.Qxb6614982a
open Go.RowKit

theorem hid {p : Prop} (h : p) : Hid p := h

theorem Try.info3 : (Try.prog.info? 3).map (fun i => (i.zero, i.size, i.bytes)) = some (some (.int .i64 0), 1, 8) := by kernel_rfl

/-- A slice of integers, as far as it is read. -/
def RowI (w : World) (a : Option Addr) (l : Nat) (Z : Nat → Int) : Prop :=
  ∀ i, i < l → ∃ b off, a = some ⟨b, off, none⟩ ∧ w.cell? ⟨b, off + i, none⟩ = some (.int .i64 (Z i))

theorem RowI.later {w w' : World} {a : Option Addr} {l : Nat} {Z : Nat → Int} (h : RowI w a l Z) (hb : Below w.heap.size w w') : RowI w' a l Z := by
  intro i hi
  obtain ⟨b, off, e, hc⟩ := h i hi
  exact ⟨b, off, e, cell_later hb hc⟩

theorem RowI.void {w : World} {a : Option Addr} {l : Nat} {Z : Nat → Int} (h : l = 0) : RowI w a l Z := by
  intro i hi
  omega

theorem RowI.of {w : World} {x : Addr} {len cap : Nat} {zs : List Int} (hl : len ≤ cap) (hz : zs.length = cap) (h : ∀ i, i < zs.length → w.cell? (x.add i) = some (.int .i64 (zs.getD i 0))) : RowI w (some x) len (fun i => zs.getD i 0) := by
  intro i hi
  have h0 := h 0 (by omega)
  obtain ⟨b, off, spot⟩ := x
  cases spot with
  | none => exact ⟨b, off, rfl, by have := h i (by omega); rwa [Addr.add_lit] at this⟩
  | some q =>
    simp only [Addr.add, if_true] at h0
    simp only [World.cell?] at h0
    split at h0 <;> simp at h0

theorem bytes_yes (x : Nat) (lv live agreed probes pmax : Int) (d : ByteArray) (a3 a8 a9 : Option Addr) (l3 l8 l9 c3 c8 c9 : Nat) (w : World) (h : d.size + l3 + l8 + l9 ≤ 1048576) :
    Calls Try.prog 4 #[.float .f64 x, .int .i64 lv, .string d, .slice a3 l3 c3, .int .i64 live, .int .i64 agreed, .int .i64 probes, .int .i64 pmax, .slice a8 l8 c8, .slice a9 l9 c9] w fun e w' => e = .returned (.bool true) ∧ w' = w := by
  go_enter Try.func4, Try.ntmps4
  go_wp2_with fail
  go_ret
  exact ⟨rfl, rfl⟩

theorem bytes_no (x : Nat) (lv live agreed probes pmax : Int) (d : ByteArray) (a3 a8 a9 : Option Addr) (l3 l8 l9 c3 c8 c9 : Nat) (w : World) (h : 1048576 < d.size + l3 + l8 + l9)
    (m0 : d.size ≤ maxLen) (m1 : l3 ≤ maxLen) (m2 : l8 ≤ maxLen) (m3 : l9 ≤ maxLen) :
    Calls Try.prog 4 #[.float .f64 x, .int .i64 lv, .string d, .slice a3 l3 c3, .int .i64 live, .int .i64 agreed, .int .i64 probes, .int .i64 pmax, .slice a8 l8 c8, .slice a9 l9 c9] w fun e w' => e = .returned (.bool false) ∧ w' = w := by
  unfold maxLen at m0 m1 m2 m3
  go_enter Try.func4, Try.ntmps4
  go_wp2_with fail
  all_goals
    go_ret
    exact ⟨rfl, rfl⟩

/-- zzLocB1Known answers some bool. -/
theorem known_any (d : ByteArray) (w : World) : Calls Try.prog 5 #[.string d] w fun e w' => (∃ b, e = .returned (.bool b)) ∧ w' = w := by
  go_enter Try.func5, Try.ntmps5
  go_wp2_with fail
  all_goals
    go_ret
    exact ⟨⟨_, rfl⟩, rfl⟩

theorem joins_pos (n : Nat) (w : World) (h : n ≤ 1000000) (h0 : 1 ≤ n) : Calls Try.prog 6 #[.int .i64 (n : Int)] w fun e w' => e = .returned (.int .i64 ((n : Int) - 1)) ∧ w' = w := by
  go_enter Try.func6, Try.ntmps6
  go_wp2_with fail
  go_ret
  exact ⟨rfl, rfl⟩

theorem joins_zero (w : World) : Calls Try.prog 6 #[.int .i64 0] w fun e w' => e = .returned (.int .i64 0) ∧ w' = w := by
  go_enter Try.func6, Try.ntmps6
  go_wp2_with fail
  go_ret
  exact ⟨rfl, rfl⟩

/-- zzLocB1SameFloat at one float, twice. -/
theorem same_any (x : Nat) (w : World) : Calls Try.prog 12 #[.float .f64 x, .float .f64 x] w fun e w' => e = .returned (.bool true) ∧ w' = w := by
  by_cases h : FloatKind.f64.format.order x x = some .eq
  · have h1 : (FloatKind.f64.format.order x x != some .eq) = false := by rw [h]; rfl
    have h2 : (FloatKind.f64.format.order x x == some .eq) = true := by rw [h]; rfl
    clear h
    go_enter Try.func12, Try.ntmps12
    go_wp2_with fail
    go_ret
    exact ⟨rfl, rfl⟩
  · have h1 : (FloatKind.f64.format.order x x != some .eq) = true := by rw [bne_iff_ne]; exact h
    clear h
    go_enter Try.func12, Try.ntmps12
    go_wp2_with fail
    go_ret
    exact ⟨rfl, rfl⟩

/-- The tree's cells, by their place. -/
structure IsTree (w : World) (b : Nat) (f x l3 : Nat) (live probes pmax agreed : Int) : Prop where
  fn : w.cell? ⟨b, 0, none⟩ = some (.func (.func 16) #[] #[.pointer (some ⟨f, 0, none⟩)])
  box : w.cell? ⟨f, 0, none⟩ = some (.float .f64 x)
  of : ∃ a c, w.cell? ⟨b, 6, none⟩ = some (.slice a l3 c)
  live : w.cell? ⟨b, 7, none⟩ = some (.int .i64 live)
  probes : w.cell? ⟨b, 8, none⟩ = some (.int .i64 probes)
  pmax : w.cell? ⟨b, 9, none⟩ = some (.int .i64 pmax)
  agreed : w.cell? ⟨b, 10, none⟩ = some (.int .i64 agreed)
  free : w.frozen? ⟨b, 8, none⟩ = false
  ne : f ≠ b

theorem tree_any (x : Nat) (lv live agreed probes pmax : Int) (d : ByteArray) (a3 : Option Addr) (l3 c3 : Nat) (w : World) :
    Calls Try.prog 8 #[.float .f64 x, .int .i64 lv, .string d, .slice a3 l3 c3, .int .i64 live, .int .i64 agreed, .int .i64 probes, .int .i64 pmax] w fun e w' => e = .returned (.pointer (some ⟨w.heap.size + 1, 0, none⟩)) ∧ IsTree w' (w.heap.size + 1) w.heap.size x l3 live probes pmax agreed ∧ Below w.heap.size w w' := by
  go_enter Try.func8, Try.ntmps8
  go_wp2_with fail
  go_ret
  refine ⟨rfl, ⟨?_, ?_, ⟨a3, c3, ?_⟩, ?_, ?_, ?_, ?_, ?_, by omega⟩, ((Below.refl _ _).alloc (Nat.le_refl _) _).alloc (by simp) _⟩
  · rw [World.cell?_alloc_at _ _ _ _ (by simp)]; rfl
  · rw [World.cell?_alloc_lt _ _ _ (by simp), World.cell?_alloc_at _ _ _ _ rfl]; rfl
  · rw [World.cell?_alloc_at _ _ _ _ (by simp)]; rfl
  · rw [World.cell?_alloc_at _ _ _ _ (by simp)]; rfl
  · rw [World.cell?_alloc_at _ _ _ _ (by simp)]; rfl
  · rw [World.cell?_alloc_at _ _ _ _ (by simp)]; rfl
  · rw [World.cell?_alloc_at _ _ _ _ (by simp)]; rfl
  · exact World.frozen?_alloc_at _ _ _ _ (by simp)

theorem IsTree.drewN {w : World} {b f x l3 : Nat} {live probes pmax agreed : Int} (h : IsTree w b f x l3 live probes pmax agreed) (q : Nat) : IsTree (w.drewN q) b f x l3 live probes pmax agreed :=
  ⟨h.fn, h.box, h.of, h.live, h.probes, h.pmax, h.agreed, h.free, h.ne⟩

theorem clone_any (a : Option Addr) (l c : Nat) (Z : Nat → Int) (w : World) (hl : l ≤ 1000000) (hr : RowI w a l Z) :
    Calls Try.prog 7 #[.slice a l c] w fun e w' => ∃ a' c', e = .returned (.slice a' l c') ∧ Below w.heap.size w w' := by
  have R := hid hr
  clear hr
  have hmk := run_make_row' (P := Try.prog) 23 3 (.int .i64 0) 8 Try.underlying23 Try.info3 rfl .i64 .i64 l (by omega) (by omega)
  have hn := fun (wx : World) (a : Option Addr) (n c : Nat) => Lib.run_eql_slice_nil (P := Try.prog) wx 23 3 a n c 0 0 Try.underlying23
  cases a with
  | none =>
    have hl0 : l = 0 := by
      by_cases h : l = 0
      · exact h
      · obtain ⟨_, _, e, _⟩ := R.out 0 (by omega); cases e
    subst hl0
    go_enter Try.func7, Try.ntmps7
    go_wp2_with fail
    go_ret
    exact ⟨none, 0, rfl, Below.refl _ _⟩
  | some x =>
    go_enter Try.func7, Try.ntmps7
    go_wp2_with fail
    go_loopw [4] (fun e w' => ∃ k : Nat, k ≤ l ∧ e = .int .i64 k ∧ Hid (∃ F', Below w.heap.size w w' ∧ w'.rowIs w.heap.size 3 l F')) (fun e _ => l - (intOf e).toNat)
    case atStart => exact ⟨0, Nat.zero_le _, rfl, _, (Below.refl _ _).alloc (Nat.le_refl _) _, World.rowIs_made w (.int .i64 0) l 3⟩
    case round =>
      obtain ⟨k, hk, rfl, hq⟩ := hrel
      obtain ⟨F', hb', hF'⟩ := hq.out
      by_cases hlt : k < l
      · obtain ⟨b3, o3, e3, q3⟩ := R.out.later hb' k hlt
        cases e3
        have x1 := hF'.cell (i := k) (by omega)
        have x2 := hF'.frozen k
        have HB' := hid hb'
        have HF' := hid hF'
        clear hb' hF'
        generalize F' k = f1 at *
        go_wp2_with fail
        go_roundw
        case rel => exact ⟨k + 1, by omega, by go_num, _, HB'.out.setCell (Nat.le_refl _) _, HF'.out.set k _⟩
        case measure => simp [intOf]; omega
      · go_wp2_with fail
        go_ret
        exact ⟨_, _, rfl, hb'⟩

theorem fraction_one (k : Int) (w : World) : Calls Try.prog 9 #[.int .i64 k, .int .i64 0] w fun e w' => e = .returned (.float .f64 4607182418800017408) ∧ w' = w := by
  go_enter Try.func9, Try.ntmps9
  go_wp2_with fail
  go_ret
  exact ⟨rfl, rfl⟩

theorem fraction_quo (k j : Int) (r : Nat) (w : World) (hj : (j == 0) = false) (h : floatBits .quo .f64 (floatOfInt .f64 k) (floatOfInt .f64 j) = some r) : Calls Try.prog 9 #[.int .i64 k, .int .i64 j] w fun e w' => e = .returned (.float .f64 r) ∧ w' = w := by
  have hq := fun w => run_float_arith (P := Try.prog) w .quo 22 .f64 _ _ r h
  have H := hid h
  clear h
  go_enter Try.func9, Try.ntmps9
  go_wp2_with fail
  go_ret
  exact ⟨rfl, rfl⟩

theorem agree_one (b f x l3 : Nat) (live probes pmax agreed : Int) (w : World) (ht : IsTree w b f x l3 live probes pmax agreed) (hl : l3 < 2) :
    Calls Try.prog 10 #[.pointer (some ⟨b, 0, none⟩)] w fun e w' => e = .returned (.float .f64 4607182418800017408) ∧ ∃ q, w' = w.drewN q := by
  obtain ⟨a, c, h6⟩ := ht.of
  clear ht
  go_enter Try.func10, Try.ntmps10
  go_wp2_with fail
  go_ret
  exact ⟨rfl, 0, rfl⟩

theorem agree_quo (b f x l3 j : Nat) (live probes pmax agreed : Int) (r : Nat) (w : World) (ht : IsTree w b f x l3 live probes pmax agreed) (hl : 2 ≤ l3) (hl2 : l3 ≤ 1000000) (hj : (l3 : Int) - 1 = (j : Int))
    (h : floatBits .quo .f64 (floatOfInt .f64 agreed) (floatOfInt .f64 (j : Int)) = some r) :
    Calls Try.prog 10 #[.pointer (some ⟨b, 0, none⟩)] w fun e w' => e = .returned (.float .f64 r) ∧ ∃ q, w' = w.drewN q := by
  obtain ⟨a, c, h6⟩ := ht.of
  have h10 := ht.agreed
  have hq := fun w => run_float_arith (P := Try.prog) w .quo 22 .f64 _ _ r h
  have H := hid h
  clear ht h
  go_enter Try.func10, Try.ntmps10
  go_wp2_with fail
  go_quiet (fail)
  go_wp2_with fail
  go_ret
  exact ⟨rfl, nq, rfl⟩

theorem probes_any (b f x l3 : Nat) (live probes pmax agreed : Int) (w : World) (ht : IsTree w b f x l3 live probes pmax agreed) : Calls Try.prog 13 #[.pointer (some ⟨b, 0, none⟩)] w fun e w' => e = .returned (.int .i64 probes) ∧ w' = w := by
  have h := ht.probes
  clear ht
  go_enter Try.func13, Try.ntmps13
  go_wp2_with fail
  go_ret
  exact ⟨rfl, rfl⟩

theorem pmax_any (b f x l3 : Nat) (live probes pmax agreed : Int) (w : World) (ht : IsTree w b f x l3 live probes pmax agreed) : Calls Try.prog 14 #[.pointer (some ⟨b, 0, none⟩)] w fun e w' => e = .returned (.int .i64 pmax) ∧ w' = w := by
  have h := ht.pmax
  clear ht
  go_enter Try.func14, Try.ntmps14
  go_wp2_with fail
  go_ret
  exact ⟨rfl, rfl⟩

theorem live_any (b f x l3 : Nat) (live probes pmax agreed : Int) (w : World) (ht : IsTree w b f x l3 live probes pmax agreed) : Calls Try.prog 15 #[.pointer (some ⟨b, 0, none⟩)] w fun e w' => e = .returned (.int .i64 live) ∧ w' = w := by
  have h := ht.live
  clear ht
  go_enter Try.func15, Try.ntmps15
  go_wp2_with fail
  go_ret
  exact ⟨rfl, rfl⟩

theorem measure_any (b f x l3 : Nat) (live probes pmax agreed p q : Int) (w : World) (ht : IsTree w b f x l3 live probes pmax agreed) :
    Calls Try.prog 11 #[.pointer (some ⟨b, 0, none⟩), .int .i64 p, .int .i64 q] w fun e w' => e = .returned (.float .f64 x) ∧ IsTree w' b f x l3 live (wrap64 (probes + 1)) pmax agreed ∧ w' = w.setCell ⟨b, 8, none⟩ (.int .i64 (wrap64 (probes + 1))) := by
  obtain ⟨h1, h2, ⟨a, c, h3⟩, h4, h5, h6, h7, h8, h9⟩ := ht
  go_enter Try.func11, Try.ntmps11
  go_wp2
  go_ret
  refine ⟨rfl, ⟨?_, ?_, ⟨a, c, ?_⟩, ?_, ?_, ?_, ?_, ?_, h9⟩, rfl⟩
  · rw [World.cell?_setCell_other _ _ _ _ (by simp)]; exact h1
  · rw [World.cell?_setCell_other _ _ _ _ (by simp)]; exact h2
  · rw [World.cell?_setCell_other _ _ _ _ (by simp)]; exact h3
  · rw [World.cell?_setCell_other _ _ _ _ (by simp)]; exact h4
  · exact World.cell?_setCell_same _ _ _ h5
  · rw [World.cell?_setCell_other _ _ _ _ (by simp)]; exact h6
  · rw [World.cell?_setCell_other _ _ _ _ (by simp)]; exact h7
  · simpa using h8

end Go.Proofs.Qxb6614982a
