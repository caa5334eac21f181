import Derived.Test.Qxb6614338aDoorProg
import Derived.Test.Qxb6614338aDoorPlain
import Derived.WalkKit
import Derived.WalkSpells
import Derived.WalkLawsBesides
import Derived.BigGuardPart
import Derived.Deep.OwnRows
import Derived.Deep.QuietTactic
import Derived.BigQuiet
namespace Go.Proofs.Qxb6614338aDoor
open Go.RowKit

theorem hid {p : Prop} (h : p) : Hid p := h

theorem Tryd.info3 : (Tryd.prog.info? 3).map (fun i => (i.zero, i.size, i.bytes)) = some (some (.int .i64 0), 1, 8) := by kernel_rfl
theorem Tryd.info4 : (Tryd.prog.info? 4).map (fun i => (i.zero, i.size, i.bytes)) = some (some (.bool false), 1, 1) := by kernel_rfl

theorem below_drewN {B : Nat} {w w' : World} (h : Below B w w') (q : Nat) : Below B w (w'.drewN q) := ⟨h.os, h.tape, h.output, h.size, h.block⟩

/-- A slice of ints that came in, as far as it is read. -/
def RowI (w : World) (a : Option Addr) (l : Nat) (Z : Nat → Int) : Prop :=
  ∀ i, i < l → ∃ b off, a = some ⟨b, off, none⟩ ∧ w.cell? ⟨b, off + i, none⟩ = some (.int .i64 (Z i))

theorem RowI.later {w w' : World} {a : Option Addr} {l : Nat} {Z : Nat → Int} (h : RowI w a l Z) (hb : Below w.heap.size w w') : RowI w' a l Z := by
  intro i hi
  obtain ⟨b, off, e, hc⟩ := h i hi
  exact ⟨b, off, e, cell_later hb hc⟩

theorem RowI.void {w : World} {a : Option Addr} {l : Nat} {Z : Nat → Int} (h : l = 0) : RowI w a l Z := by
  intro i hi
  omega

theorem RowI.of {w : World} {x : Addr} {len cap : Nat} {zs : List Int} (hl : len ≤ cap) (hz : zs.length = cap) (h : ∀ i, i < zs.length → w.cell? (x.add i) = some (.int .i64 (zs.getD i 0))) : RowI w (some x) len (fun i => zs.getD i 0) := by
  intro i hi
  have h0 := h 0 (by omega)
  obtain ⟨b, off, spot⟩ := x
  cases spot with
  | none => exact ⟨b, off, rfl, by have := h i (by omega); rwa [Addr.add_lit] at this⟩
  | some q =>
    simp only [Addr.add, if_true] at h0
    simp only [World.cell?] at h0
    split at h0 <;> simp at h0

/-- A row of ints of the call's own. -/
def RI (w : World) (b n : Nat) (Z : Nat → Int) : Prop := w.rowIs b 3 n (fun i => .int .i64 (Z i))
/-- A row of bools of the call's own. -/
def RB (w : World) (b n : Nat) (p : Nat → Bool) : Prop := w.rowIs b 4 n (fun i => .bool (p i))

theorem RI.cell {w : World} {b n : Nat} {Z : Nat → Int} (h : RI w b n Z) {i : Nat} (hi : i < n) : w.cell? ⟨b, i, none⟩ = some (.int .i64 (Z i)) := World.rowIs.cell h hi
theorem RI.frozen {w : World} {b n : Nat} {Z : Nat → Int} (h : RI w b n Z) (i : Nat) : w.frozen? ⟨b, i, none⟩ = false := World.rowIs.frozen h i
theorem RI.lt {w : World} {b n : Nat} {Z : Nat → Int} (h : RI w b n Z) : b < w.heap.size := World.rowIs.lt h
theorem RI.congr {w : World} {b n : Nat} {Z Z' : Nat → Int} (h : RI w b n Z) (e : ∀ i, i < n → Z i = Z' i) : RI w b n Z' := World.rowIs.congr h fun i hi => by rw [e i hi]
theorem RI.set {w : World} {b n : Nat} {Z : Nat → Int} (h : RI w b n Z) (i : Nat) (v : Int) : RI (w.setCell ⟨b, i, none⟩ (.int .i64 v)) b n (upd Z i v) :=
  World.rowIs.congr (World.rowIs.set h i (.int .i64 v)) fun j _ => by simp only [upd]; split <;> rfl
theorem RI.other {w : World} {b n : Nat} {Z : Nat → Int} (h : RI w b n Z) {a : Addr} (ha : b ≠ a.block) (v : Value) : RI (w.setCell a v) b n Z := World.rowIs.setOther h ha v
theorem RI.alloc {w : World} {b n : Nat} {Z : Nat → Int} (h : RI w b n Z) (o : Obj) : RI (w.alloc o) b n Z := World.rowIs.alloc h o
theorem RI.row {w : World} {b n : Nat} {Z : Nat → Int} (h : RI w b n Z) : RowI w (some ⟨b, 0, none⟩) n Z := fun i hi => ⟨b, 0, rfl, by rw [Nat.zero_add]; exact h.cell hi⟩
theorem RB.cell {w : World} {b n : Nat} {p : Nat → Bool} (h : RB w b n p) {i : Nat} (hi : i < n) : w.cell? ⟨b, i, none⟩ = some (.bool (p i)) := World.rowIs.cell h hi
theorem RB.frozen {w : World} {b n : Nat} {p : Nat → Bool} (h : RB w b n p) (i : Nat) : w.frozen? ⟨b, i, none⟩ = false := World.rowIs.frozen h i
theorem RB.set {w : World} {b n : Nat} {p : Nat → Bool} (h : RB w b n p) (i : Nat) (v : Bool) : RB (w.setCell ⟨b, i, none⟩ (.bool v)) b n (upd p i v) :=
  World.rowIs.congr (World.rowIs.set h i (.bool v)) fun j _ => by simp only [upd]; split <;> rfl

/-- Only the blocks of S have been written; new ones may have come. -/
structure Kept (S : List Nat) (w w' : World) : Prop where
  os : w'.os = w.os
  tape : w'.tape = w.tape
  output : w'.output = w.output
  size : w.heap.size ≤ w'.heap.size
  block : ∀ k, k < w.heap.size → k ∉ S → w'.heap[k]? = w.heap[k]?

theorem Kept.refl (S : List Nat) (w : World) : Kept S w w := ⟨rfl, rfl, rfl, Nat.le_refl _, fun _ _ _ => rfl⟩
theorem Kept.trans {S : List Nat} {w1 w2 w3 : World} (h : Kept S w1 w2) (k : Kept S w2 w3) : Kept S w1 w3 :=
  ⟨k.os.trans h.os, k.tape.trans h.tape, k.output.trans h.output, Nat.le_trans h.size k.size, fun i hi hs => (k.block i (Nat.lt_of_lt_of_le hi h.size) hs).trans (h.block i hi hs)⟩
theorem Kept.mono {S T : List Nat} {w w' : World} (h : Kept S w w') (hs : ∀ k, k ∈ S → k ∈ T) : Kept T w w' := ⟨h.os, h.tape, h.output, h.size, fun k hk hn => h.block k hk fun q => hn (hs k q)⟩
theorem Kept.set {S : List Nat} {w w' : World} (h : Kept S w w') {a : Addr} (ha : a.block ∈ S) (v : Value) : Kept S w (w'.setCell a v) :=
  h.trans ⟨rfl, rfl, rfl, by simp [World.setCell], fun k _ hn => Below.heap_setCell _ _ _ _ fun e => hn (by rw [e]; exact ha)⟩
theorem Kept.alloc {S : List Nat} {w w' : World} (h : Kept S w w') (o : Obj) : Kept S w (w'.alloc o) :=
  h.trans ⟨rfl, rfl, rfl, by simp, fun k hk _ => Below.heap_alloc _ _ _ hk⟩
theorem Kept.drewN {S : List Nat} {w w' : World} (h : Kept S w w') (q : Nat) : Kept S w (w'.drewN q) := ⟨h.os, h.tape, h.output, h.size, h.block⟩
theorem Kept.drew {S : List Nat} {w w' : World} (h : Kept S w w') : Kept S w w'.drew := ⟨h.os, h.tape, h.output, h.size, h.block⟩
theorem Kept.below {S : List Nat} {w w' : World} {B : Nat} (h : Kept S w w') (hB : B ≤ w.heap.size) (hs : ∀ k, k ∈ S → B ≤ k) : Below B w w' :=
  ⟨h.os, h.tape, h.output, h.size, fun k hk => h.block k (by omega) fun q => by have := hs k q; omega⟩
theorem Kept.of_below {w w' : World} (h : Below w.heap.size w w') : Kept [] w w' := ⟨h.os, h.tape, h.output, h.size, fun k hk _ => h.block k hk⟩
theorem Kept.row {S : List Nat} {w w' : World} {b n : Nat} {t : TypeId} {f : Nat → Value} (h : Kept S w w') (r : w.rowIs b t n f) (hb : b ∉ S) : w'.rowIs b t n f := r.of_block (h.block b r.lt hb)
theorem Kept.ri {S : List Nat} {w w' : World} {b n : Nat} {Z : Nat → Int} (h : Kept S w w') (r : RI w b n Z) (hb : b ∉ S) : RI w' b n Z := Kept.row h r hb

set_option maxHeartbeats 1000000 in
/-- zzCloneInts of a slice that isn't nil. -/
theorem clone_any (a : Option Addr) (l c : Nat) (Z : Nat → Int) (w : World) (hl : l ≤ 1000000) (hl1 : 1 ≤ l) (hr : RowI w a l Z) :
    Calls Tryd.prog 8 #[.slice a l c] w fun e w' => e = .returned (.slice (some ⟨w.heap.size, 0, none⟩) l l) ∧ RI w' w.heap.size l Z ∧ Below w.heap.size w w' ∧ w'.heap.size = w.heap.size + 1 := by
  obtain ⟨b, off, rfl, _⟩ := hr 0 hl1
  have R := hid hr
  clear hr
  have hmk := run_make_row' (P := Tryd.prog) 22 3 (.int .i64 0) 8 Tryd.underlying22 Tryd.info3 rfl .i64 .i64 l (by omega) (by omega)
  have hn := fun (wx : World) (a : Option Addr) (n c : Nat) => Lib.run_eql_slice_nil (P := Tryd.prog) wx 22 3 a n c 0 0 Tryd.underlying22
  go_enter Tryd.func8, Tryd.ntmps8
  go_wp2_with fail
  go_loopw [4] (fun e w' => ∃ k : Nat, k ≤ l ∧ e = .int .i64 k ∧ Hid (Below w.heap.size w w' ∧ w'.heap.size = w.heap.size + 1 ∧ ∃ F, RI w' w.heap.size l F ∧ ∀ j, j < k → F j = Z j)) (fun e _ => l - (intOf e).toNat)
  case atStart => exact ⟨0, Nat.zero_le _, rfl, (Below.refl _ _).alloc (Nat.le_refl _) _, by simp, _, World.rowIs_made w (.int .i64 0) l 3, fun j hj => by omega⟩
  case round =>
    obtain ⟨k, hk, rfl, hq⟩ := hrel
    obtain ⟨hb', hs', F, hF, hc⟩ := hq.out
    by_cases hlt : k < l
    · obtain ⟨b3, o3, e3, q3⟩ := R.out.later hb' k hlt
      cases e3
      have x1 := hF.cell (i := k) (by omega)
      have x2 := hF.frozen k
      have X := hid (And.intro hb' (And.intro hs' (And.intro hF hc)))
      clear hb' hs' hF hc hq
      generalize F k = f1 at *
      go_wp2_with fail
      go_roundw
      case rel =>
        obtain ⟨hb', hs', hF, hc⟩ := X.out
        refine ⟨k + 1, by omega, by go_num, hb'.setCell (Nat.le_refl _) _, by simpa using hs', _, hF.set k _, fun j hj => ?_⟩
        by_cases e : j = k
        · subst e; exact upd_same _ _ _
        · rw [upd_other e]; exact hc j (by omega)
      case measure => simp [intOf]; omega
    · go_wp2_with fail
      go_ret
      exact ⟨rfl, hF.congr (fun i hi => hc i (by omega)), hb', hs'⟩

/-- Some bool is returned; where it is true, Q holds. -/
def BoolIf (Q : Prop) (e : Ending) : Prop := ∃ b, e = .returned (.bool b) ∧ (b = true → Q)
theorem BoolIf.no (Q : Prop) : BoolIf Q (.returned (.bool false)) := ⟨false, rfl, fun h => by cases h⟩
theorem BoolIf.yes {Q : Prop} (h : Q) : BoolIf Q (.returned (.bool true)) := ⟨true, rfl, fun _ => h⟩

/-- zzRefsIn: some bool; true only where every entry is in range. -/
theorem refs_any (a : Option Addr) (l c : Nat) (m : Int) (Z : Nat → Int) (w : World) (hl : l ≤ 1000000) (hr : RowI w a l Z) :
    Calls Tryd.prog 7 #[.slice a l c, .int .i64 m] w fun e w' => BoolIf (∀ i, i < l → -1 ≤ Z i ∧ Z i < m) e ∧ w' = w := by
  have R := hid hr
  clear hr
  go_enter Tryd.func7, Tryd.ntmps7
  go_wp2_with fail
  go_loop [5] (fun e => ∃ k : Nat, k ≤ l ∧ e = .int .i64 k ∧ Hid (∀ i, i < k → -1 ≤ Z i ∧ Z i < m)) (fun e => l - (intOf e).toNat)
  case atStart => exact ⟨0, Nat.zero_le _, rfl, fun i hi => by omega⟩
  case round =>
    obtain ⟨k, hk, rfl, hq⟩ := hrel
    by_cases hlt : k < l
    · obtain ⟨b3, o3, rfl, q3⟩ := R.out k hlt
      generalize hz0 : Z k = z at *
      have HZ := hid hz0
      clear hz0
      by_cases e1 : z < -1
      · go_wp2_with fail
        all_goals (go_ret; exact ⟨BoolIf.no _, rfl⟩)
      by_cases e2 : m ≤ z
      · go_wp2_with fail
        all_goals (go_ret; exact ⟨BoolIf.no _, rfl⟩)
      go_wp2_with fail
      all_goals try (go_ret; exact ⟨BoolIf.no _, rfl⟩)
      go_round
      case rel =>
        refine ⟨k + 1, by omega, by go_num, fun i hi => ?_⟩
        by_cases e : i = k
        · rw [e, HZ.out]; omega
        · exact hq.out i (by omega)
      case measure => simp [intOf]; omega
    · go_wp2_with fail
      go_ret
      exact ⟨BoolIf.yes fun i hi => hq.out i (by omega), rfl⟩

theorem bytes_any (a0 a1 a2 : Option Addr) (l0 l1 l2 c0 c1 c2 : Nat) (m a b v0 va vb : Int) (fa fb : Bool) (w : World) (m0 : l0 ≤ maxLen) (m1 : l1 ≤ maxLen) (m2 : l2 ≤ maxLen) :
    Calls Tryd.prog 5 #[.slice a0 l0 c0, .slice a1 l1 c1, .slice a2 l2 c2, .int .i64 m, .int .i64 a, .int .i64 b, .int .i64 v0, .int .i64 va, .int .i64 vb, .bool fa, .bool fb] w fun e w' => BoolIf True e ∧ w' = w := by
  unfold maxLen at m0 m1 m2
  go_enter Tryd.func5, Tryd.ntmps5
  go_wp2_with fail
  all_goals
    go_ret
    exact ⟨⟨_, rfl, fun _ => trivial⟩, rfl⟩

/-- zzUnlink. -/
theorem unlink_any (gn gp m e : Nat) (N P : Nat → Nat) (w : World) (hne : gn ≠ gp) (_hm : m ≤ 1000000) (he : e < m) (h1 : N e < m) (h2 : P e < m) (hN : RI w gn m (fun i => (N i : Int))) (hP : RI w gp m (fun i => (P i : Int))) :
    Calls Tryd.prog 11 #[.slice (some ⟨gn, 0, none⟩) m m, .slice (some ⟨gp, 0, none⟩) m m, .int .i64 (e : Int)] w fun r w' => r = .returned (.tuple #[]) ∧ RI w' gn m (fun i => (unlN N P e i : Int)) ∧ RI w' gp m (fun i => (unlP N P e i : Int)) ∧ Kept [gn, gp] w w' := by
  have x1 := hN.cell (i := e) he
  have x2 := hP.cell (i := e) he
  have x3 := hN.cell (i := P e) h2
  have x4 := hN.frozen (P e)
  have x5 := hP.cell (i := N e) h1
  have x6 := hP.frozen (N e)
  have X := hid (And.intro hN hP)
  have hfin := hid (show RI ((w.setCell ⟨gn, P e, none⟩ (.int .i64 (N e : Int))).setCell ⟨gp, N e, none⟩ (.int .i64 (P e : Int))) gn m (fun i => (unlN N P e i : Int)) ∧ RI ((w.setCell ⟨gn, P e, none⟩ (.int .i64 (N e : Int))).setCell ⟨gp, N e, none⟩ (.int .i64 (P e : Int))) gp m (fun i => (unlP N P e i : Int)) ∧ Kept [gn, gp] w ((w.setCell ⟨gn, P e, none⟩ (.int .i64 (N e : Int))).setCell ⟨gp, N e, none⟩ (.int .i64 (P e : Int))) from
    ⟨((hN.set (P e) _).other (by simpa using hne) _).congr (fun i _ => by simp only [unlN, upd]; split <;> rfl), ((hP.other (by simpa using Ne.symm hne) _).set (N e) _).congr (fun i _ => by simp only [unlP, upd]; split <;> rfl), ((Kept.refl _ w).set (by simp) _).set (by simp) _⟩)
  clear hN hP
  generalize hNe : N e = ne at *
  generalize hPe : P e = pe at *
  generalize (N pe : Int) = y1 at *
  generalize (P ne : Int) = y2 at *
  have HNe := hid hNe
  have HPe := hid hPe
  clear hNe hPe
  go_enter Tryd.func11, Tryd.ntmps11
  go_wp2_with fail
  go_end0
  exact ⟨rfl, hfin.out⟩


/-- zzCallBeforeFirstReturn: some bool. -/
theorem before_any (gn h : Nat) (e : Int) (rk : Nat → Nat) (D : Nat → Prop) (N P : Nat → Nat) (w : World) (hm : h ≤ 262144) (L : Lk h rk D N P) (hN : RI w gn (h + 1) (fun i => (N i : Int))) :
    Calls Tryd.prog 10 #[.slice (some ⟨gn, 0, none⟩) (h + 1) (h + 1), .int .i64 (h : Int), .int .i64 e] w fun r w' => BoolIf True r ∧ w' = w := by
  have x1 := hN.cell (i := h) (by omega)
  have X := hid hN
  have L' := hid L
  have hb0 := L.nle h (Nat.le_refl _) L.head
  have hd0 := hid (L.nin h (Nat.le_refl _) L.head)
  clear hN L
  go_enter Tryd.func10, Tryd.ntmps10
  go_wp2_with fail
  go_loop [7, 8] (fun c s => ∃ x k : Nat, x ≤ h ∧ Hid (¬ D x) ∧ k ≤ h ∧ c = .int .i64 x ∧ s = .int .i64 k) (fun _ s => h - (intOf s).toNat)
  case atStart => exact ⟨N h, 0, hb0, hd0, Nat.zero_le _, rfl, rfl⟩
  case round =>
    obtain ⟨x, k, hx, hd, hk, rfl, rfl⟩ := hrel
    by_cases hlt : k < h
    · have y1 := X.out.cell (i := x) (by omega)
      have y2 := L'.out.nle x hx hd.out
      have y3 := hid (L'.out.nin x hx hd.out)
      generalize N x = nx at *
      by_cases e1 : x = h
      · have e2 : ((x : Int) == (h : Int)) = true := beq_iff_eq.2 (by omega)
        clear e1
        go_wp2_with fail
        all_goals (go_ret; exact ⟨⟨_, rfl, fun _ => trivial⟩, rfl⟩)
      have e2 : ((x : Int) == (h : Int)) = false := beq_eq_false_iff_ne.2 (by omega)
      by_cases e3 : (x : Int) = e
      · have e4 : ((x : Int) == e) = true := beq_iff_eq.2 e3
        clear e3 e1
        go_wp2_with fail
        all_goals (go_ret; exact ⟨⟨_, rfl, fun _ => trivial⟩, rfl⟩)
      have e4 : ((x : Int) == e) = false := beq_eq_false_iff_ne.2 e3
      clear e1 e3
      go_wp2_with fail
      all_goals try (go_ret; exact ⟨⟨_, rfl, fun _ => trivial⟩, rfl⟩)
      go_round
      case rel => exact ⟨nx, k + 1, y2, y3, by omega, rfl, by go_num⟩
      case measure => simp [intOf]; omega
    · go_wp2_with fail
      go_ret
      exact ⟨⟨_, rfl, fun _ => trivial⟩, rfl⟩

set_option maxHeartbeats 1000000 in
/-- zzBuildLinks. -/
theorem build_any (a : Option Addr) (h c : Nat) (Z : Nat → Nat) (w : World) (hm : h ≤ 262144) (V : Perm h Z) (hr : RowI w a h (fun i => (Z i : Int))) :
    Calls Tryd.prog 9 #[.slice a h c] w fun e w' => e = .returned (.tuple #[.slice (some ⟨w.heap.size, 0, none⟩) (h + 1) (h + 1), .slice (some ⟨w.heap.size + 1, 0, none⟩) (h + 1) (h + 1)]) ∧
      (∃ rk N P, Lk h rk (fun _ => False) N P ∧ RI w' w.heap.size (h + 1) (fun i => (N i : Int)) ∧ RI w' (w.heap.size + 1) (h + 1) (fun i => (P i : Int))) ∧ Below w.heap.size w w' ∧ w'.heap.size = w.heap.size + 2 := by
  have R := hid hr
  have V' := hid V
  clear hr V
  have hmk := run_make_row' (P := Tryd.prog) 22 3 (.int .i64 0) 8 Tryd.underlying22 Tryd.info3 rfl .i64 .i64 (h + 1) (by omega) (by omega)
  rw [show ((h + 1 : Nat) : Int) = (h : Int) + 1 from by omega] at hmk
  go_enter Tryd.func9, Tryd.ntmps9
  go_wp2_with fail
  go_loopw [7, 8] (fun p j w' => ∃ k : Nat, k ≤ h ∧ j = .int .i64 k ∧ p = .int .i64 (seqOf h Z k : Nat) ∧ Hid (Below w.heap.size w w' ∧ w'.heap.size = w.heap.size + 2 ∧ ∃ N P, Laid h Z k N P ∧ RI w' w.heap.size (h + 1) (fun i => (N i : Int)) ∧ RI w' (w.heap.size + 1) (h + 1) (fun i => (P i : Int)))) (fun _ j _ => h - (intOf j).toNat)
  case atStart =>
    refine ⟨0, Nat.zero_le _, rfl, rfl, ((Below.refl _ _).alloc (Nat.le_refl _) _).alloc (by simp) _, by simp, fun _ => 0, fun _ => 0, fun i hi => by omega, (World.rowIs_made w (.int .i64 0) (h + 1) 3).alloc _, ?_⟩
    have := World.rowIs_made (w.alloc (.cells (madeCells #[.int .i64 0] (h + 1)) 3)) (.int .i64 0) (h + 1) 3
    rw [World.size_alloc] at this
    exact this
  case round =>
    obtain ⟨k, hk, rfl, rfl, hq⟩ := hrel
    obtain ⟨hb', hs', N, P, hL, hN, hP⟩ := hq.out
    by_cases hlt : k < h
    · obtain ⟨b3, o3, rfl, q3⟩ := R.out.later hb' k hlt
      dsimp only at q3
      have z1 := V'.out.lt k hlt
      have z2 := V'.out.seq_le (i := k) (by omega)
      have x1 := hN.cell (i := seqOf h Z k) (by omega)
      have x2 := hN.frozen (seqOf h Z k)
      have x3 := hP.cell (i := Z k) (by omega)
      have x4 := hP.frozen (Z k)
      have X := hid (And.intro hb' (And.intro hs' (And.intro (hL.step V'.out hlt) (And.intro hN hP))))
      have hz := hid (show Z k = seqOf h Z (k + 1) from rfl)
      clear hb' hs' hL hN hP hq
      generalize hsk : seqOf h Z k = sk at *
      have HSK := hid hsk
      clear hsk
      generalize hzk : Z k = zk at *
      have HZK := hid hzk
      clear hzk
      generalize (N sk : Int) = f1 at *
      generalize (P zk : Int) = f2 at *
      go_wp2_with fail
      go_roundw
      case rel =>
        obtain ⟨hb', hs', hL, hN, hP⟩ := X.out
        refine ⟨k + 1, by omega, by go_num, by rw [← hz.out], (hb'.setCell (Nat.le_refl _) _).setCell (by simp) _, by simpa using hs', _, _, hL, ((hN.set sk _).other (by simp) _).congr (fun i _ => by simp only [upd]; split <;> rfl), ((hP.other (by simp) _).set zk _).congr (fun i _ => by simp only [upd]; split <;> rfl)⟩
      case measure => simp [intOf]; omega
    · have e : k = h := by omega
      subst e
      have z2 := V'.out.seq_le (i := k) (by omega)
      have x1 := hN.cell (i := seqOf k Z k) (by omega)
      have x2 := hN.frozen (seqOf k Z k)
      have x3 := hP.cell (i := k) (by omega)
      have x4 := hP.frozen k
      obtain ⟨rk, hlk⟩ := hL.close V'.out
      have X := hid (And.intro hb' (And.intro hs' (And.intro hlk (And.intro hN hP))))
      clear hb' hs' hL hN hP hq hlk
      generalize seqOf k Z k = sk at *
      generalize (N sk : Int) = f1 at *
      generalize (P k : Int) = f2 at *
      go_wp2_with fail
      go_ret2
      obtain ⟨hb', hs', hL, hN, hP⟩ := X.out
      exact ⟨rfl, ⟨rk, _, _, hL, ((hN.set sk _).other (by simp) _).congr (fun i _ => by simp only [upd]; split <;> rfl), ((hP.other (by simp) _).set k _).congr (fun i _ => by simp only [upd]; split <;> rfl)⟩, (hb'.setCell (Nat.le_refl _) _).setCell (by simp) _, by simpa using hs'⟩

end Go.Proofs.Qxb6614338aDoor
