import Derived.Test.Qxb6614338aDoorOps2
import Derived.Laws.AppendOwn
namespace Go.Proofs.Qxb6614338aDoor
open Go.RowKit
variable {C : SC} {b : Nat} {w : World} {N P : Nat → Nat} {S Wn wt tt : Nat → Int} {B : Nat → Nat} {first last value : Int} {st : Value} {k : Nat} {xs : List Value}

/-- relink. -/
theorem relink_any (e : Nat) (N' P' : Nat → Nat) (hN' : upd N (P e) e = N') (hP' : upd P (N' e) e = P') (he : e < C.h) (_hh : C.h ≤ 1000000) (h1 : P e < C.h) (h2 : N' e < C.h) (h : St C b w N P S Wn wt tt B first last value st k xs) :
    Calls Tryd.prog 37 #[.pointer (some ⟨b, 0, none⟩), .int .i64 (e : Int)] w fun r w' => r = .returned (.tuple #[]) ∧ St C b w' N' P' S Wn wt tt B first last value st k xs := by
  have x1 : w.cell? ⟨b, 2, none⟩ = some (.slice (some ⟨C.gn, 0, none⟩) C.h C.h) := h.s.cell (by decide)
  have x2 : w.cell? ⟨b, 3, none⟩ = some (.slice (some ⟨C.gp, 0, none⟩) C.h C.h) := h.s.cell (by decide)
  have x3 := h.p.cell (i := e) he
  have x4 := h.n.cell (i := P e) h1
  have x5 := h.n.frozen (P e)
  have hs := hid (h.setN (P e) e)
  rw [hN'] at hs
  have HP := hid hP'
  clear h hN' hP'
  generalize P e = pe at *
  generalize N pe = npe at *
  go_enter Tryd.func37, Tryd.ntmps37
  go_wp2_with fail
  go_region
  have h3 := hid (show St C b (w.setCell ⟨C.gn, pe, none⟩ (.int .i64 (e : Int))).drew N' P S Wn wt tt B first last value st k xs from hs.out.drewN 1)
  clear hs x1 x2 x3 x4 x5
  generalize (w.setCell ⟨C.gn, pe, none⟩ (.int .i64 (e : Int))).drew = w1 at *
  have y1 : w1.cell? ⟨b, 2, none⟩ = some (.slice (some ⟨C.gn, 0, none⟩) C.h C.h) := h3.out.s.cell (by decide)
  have y2 : w1.cell? ⟨b, 3, none⟩ = some (.slice (some ⟨C.gp, 0, none⟩) C.h C.h) := h3.out.s.cell (by decide)
  have y3 := h3.out.n.cell (i := e) he
  have y4 := h3.out.p.cell (i := N' e) h2
  have y5 := h3.out.p.frozen (N' e)
  have hs := hid (h3.out.setP (N' e) e)
  rw [HP.out] at hs
  clear h3 HP
  generalize N' e = ne at *
  generalize P ne = pne at *
  go_wp2_with fail
  go_region
  go_wp2_with fail
  go_end0
  exact ⟨rfl, hs.out.drewN 1⟩

/-- undrop of none. -/
theorem undrop_any : Calls Tryd.prog 38 #[.pointer (some ⟨b, 0, none⟩), .int .i64 0] w fun r w' => r = .returned (.tuple #[]) ∧ w' = w := by
  go_enter Tryd.func38, Tryd.ntmps38
  go_wp2_with fail
  refine wp_loop_rounds 1 ?_
  rw [rounds_succ]
  go_wp2_with fail
  go_end0
  exact ⟨rfl, rfl⟩

def pl (i v f d : Int) (p : Bool) : List Value := [.int .i32 i, .int .i32 v, .int .i32 f, .int .i32 d, .bool p]

theorem Tryd.info67 : (Tryd.prog.info? 67).map (fun i => (i.zero, i.size, i.bytes)) = some (some (.agg #[.int .i32 0, .int .i32 0, .int .i32 0, .int .i32 0, .bool false]), 5, 20) := by kernel_rfl

theorem Tryd.underlying59 : Tryd.prog.underlying 59 = some (.slice 67) := by kernel_rfl

theorem own_slice {base : Nat} {e : TypeId} {size : Nat} {v : Value} (h : w.ownsRow base e size v (k + 1) xs) : ∃ g cap, v = .slice (some ⟨g, 0, none⟩) (k + 1) cap := by
  rcases h.2 with ⟨_, h0⟩ | ⟨g, cap, _, rfl, _⟩
  · omega
  · exact ⟨g, cap, rfl⟩

theorem pushed34 {w' : World} (h : St C b w N P S Wn wt tt B first last value st k xs) (hg : w.grownBy w' st.ownBlock) : w'.cell? ⟨b, 34, none⟩ = some st ∧ w'.frozen? ⟨b, 34, none⟩ = false :=
  have r := row_g h.s hg (Nat.le_refl _) fun q hq => (h.own.lt q hq).1
  ⟨r.cell (i := 34) (by decide), r.frozen 34⟩

/-- ZZpush. -/
theorem push_any (i v f d : Int) (p : Bool) (hk : k ≤ 1000) (hl : C.lim ≤ b + 1) (h : St C b w N P S Wn wt tt B first last value st k xs) :
    Calls Tryd.prog 17 #[.pointer (some ⟨b, 0, none⟩), .int .i32 i, .int .i32 v, .int .i32 f, .int .i32 d, .bool p] w fun r w' => r = .returned (.tuple #[]) ∧ ∃ g cap, St C b w' N P S Wn wt tt B first last value (.slice (some ⟨g, 0, none⟩) (k + 1) cap) (k + 1) (xs ++ pl i v f d p) := by
  obtain ⟨i0, hi, hz⟩ := Option.map_eq_some_iff.1 Tryd.info67
  simp only [Prod.mk.injEq] at hz
  obtain ⟨hz0, hz1, hz2⟩ := hz
  have x1 : w.cell? ⟨b, 34, none⟩ = some st := h.s.cell (by decide)
  have HA := hid (h.alloc (.cells (pl i v f d p).toArray 67))
  have hlt : b + 1 ≤ w.heap.size := by have := h.kp.size; have := h.kp.sz; omega
  have hnews : ∀ j u, (pl i v f d p)[j]? = some u → (w.alloc (.cells (pl i v f d p).toArray 67)).cell? ((⟨w.heap.size, 0, none⟩ : Addr).add j) = some u := by
    intro j u hu
    rw [Addr.add_lit, cell_of_row _ _ _ _ _ _ (heap_alloc_new w _)]
    simpa using hu
  have HN := hid hnews
  have hone : ∀ u ∈ pl i v f d p, u.oneCell' = true := by
    intro u hu
    simp only [pl, List.mem_cons, List.not_mem_nil, or_false] at hu
    rcases hu with rfl | rfl | rfl | rfl | rfl <;> rfl
  have HO := hid hone
  have HK := hid hk
  have HL := hid hlt
  have HL2 := hid hl
  clear h hnews hone hk hlt hl
  go_enter Tryd.func17, Tryd.ntmps17
  go_wp2_with (at_builtin; refine wpList_append_own _ rfl _ _ 59 rfl (b + 1) 67 i0 _ 5 20 Tryd.underlying59 hi hz0 hz1 hz2 rfl (by decide) _ k xs rfl (HA.out.own) ⟨w.heap.size, 0, none⟩ 1 1 (pl i v f d p) rfl rfl HN.out HO.out (by have := HK.out; unfold maxLen; omega) (by have := HK.out; omega) (by have := HL.out; simp; omega) ?_; intro v' w1 hown' hgrow _; obtain ⟨g, cap, rfl⟩ := own_slice hown'; have hg : World.grownBy (w.alloc (.cells (pl i v f d p).toArray 67)) w1 st.ownBlock := hgrow; have HF := hid (And.intro hg hown'); have y1 := pushed34 HA.out hg; obtain ⟨y1, y2⟩ := y1; clear hgrow hg hown')
  go_end0
  exact ⟨rfl, g, cap, HA.out.pushed HL2.out HF.out.1 HF.out.2⟩

end Go.Proofs.Qxb6614338aDoor
