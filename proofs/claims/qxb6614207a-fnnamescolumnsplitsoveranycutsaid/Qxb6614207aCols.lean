import Derived.Test.Qxb6614207aProg
import Derived.WalkKit
import Derived.WalkSpells
import Derived.WalkLawsBesides
namespace Go.Proofs.Qxb6614207a
open Go.RowKit

theorem hid {p : Prop} (h : p) : Hid p := h

def anyB (D : Nat → Bool) (m : Nat) : Bool := (List.range m).any D

theorem anyB_succ (D : Nat → Bool) (m : Nat) : anyB D (m + 1) = (anyB D m || D m) := by
  simp [anyB, List.range_succ]

theorem anyB_true {D : Nat → Bool} {k m : Nat} (h : k < m) (hd : D k = true) : anyB D m = true := by
  simp only [anyB, List.any_eq_true, List.mem_range]
  exact ⟨k, h, hd⟩

/-- 'v stands for a tree no deeper than n, which names a column iff b'; its cells lie in blocks other than B. -/
def Rep (B : Nat) (w : World) : Nat → Value → Bool → Prop
  | 0, _, _ => False
  | n + 1, v, b =>
    (∃ p, v = .iface 32 (.pointer p) ∧ b = true) ∨
    (∃ p, v = .iface 33 (.pointer p) ∧ b = false) ∨
    (∃ p, v = .iface 34 (.pointer p) ∧ b = false) ∨
    (∃ p, v = .iface 35 (.pointer p) ∧ b = false) ∨
    (∃ (a c m : Nat) (V : Nat → Value) (D : Nat → Bool), v = .iface 36 (.pointer (some ⟨a, 0, none⟩)) ∧ a ≠ B ∧ c ≠ B ∧ m ≤ 1000000 ∧ w.cell? ⟨a, 1, none⟩ = some (.slice (some ⟨c, 0, none⟩) m m) ∧ (∀ i, i < m → w.cell? ⟨c, i, none⟩ = some (V i) ∧ Rep B w n (V i) (D i)) ∧ b = anyB D m) ∨
    (∃ a x, v = .iface 41 (.pointer (some ⟨a, 0, none⟩)) ∧ a ≠ B ∧ w.cell? ⟨a, 1, none⟩ = some x ∧ Rep B w n x b) ∨
    (∃ a x y bx byy, v = .iface 44 (.pointer (some ⟨a, 0, none⟩)) ∧ a ≠ B ∧ w.cell? ⟨a, 1, none⟩ = some x ∧ w.cell? ⟨a, 2, none⟩ = some y ∧ Rep B w n x bx ∧ Rep B w n y byy ∧ b = (bx || byy)) ∨
    (∃ a x, v = .iface 47 (.pointer (some ⟨a, 0, none⟩)) ∧ a ≠ B ∧ w.cell? ⟨a, 0, none⟩ = some x ∧ Rep B w n x b) ∨
    (∃ (a c m : Nat) (x : Value) (bx : Bool) (V : Nat → Value) (D : Nat → Bool), v = .iface 50 (.pointer (some ⟨a, 0, none⟩)) ∧ a ≠ B ∧ c ≠ B ∧ m ≤ 1000000 ∧ w.cell? ⟨a, 0, none⟩ = some x ∧ Rep B w n x bx ∧ w.cell? ⟨a, 1, none⟩ = some (.slice (some ⟨c, 0, none⟩) m m) ∧ (∀ i, i < m → w.cell? ⟨c, i, none⟩ = some (V i) ∧ Rep B w n (V i) (D i)) ∧ b = (bx || anyB D m)) ∨
    (∃ a x y z bx byy bz, v = .iface 53 (.pointer (some ⟨a, 0, none⟩)) ∧ a ≠ B ∧ w.cell? ⟨a, 0, none⟩ = some x ∧ w.cell? ⟨a, 1, none⟩ = some y ∧ w.cell? ⟨a, 2, none⟩ = some z ∧ Rep B w n x bx ∧ Rep B w n y byy ∧ Rep B w n z bz ∧ b = (bx || byy || bz))

/-- slices.IndexFunc over trees that NamesColumn answers. -/
theorem index_any (w : World) (c m : Nat) (V : Nat → Value) (D : Nat → Bool) (hm : m ≤ 1000000) (hc : ∀ i, i < m → w.cell? ⟨c, i, none⟩ = some (V i))
    (hf : Hid (∀ i, i < m → Calls Try.prog 7 #[V i] w fun e w' => e = .returned (.bool (D i)) ∧ w' = w)) :
    Calls Try.prog 14 #[.slice (some ⟨c, 0, none⟩) m m, .func (.func 7) #[] #[]] w fun e w' => (∃ z : Int, e = .returned (.int .i64 z) ∧ (decide (0 ≤ z)) = anyB D m) ∧ w' = w := by
  go_enter Try.func14, Try.ntmps14
  go_wp2_with fail
  go_loop [8] (fun t => ∃ k : Nat, k ≤ m ∧ t = .int .i64 k ∧ Hid (anyB D k = false)) (fun t => m - (intOf t).toNat)
  case atStart => exact ⟨0, Nat.zero_le _, rfl, rfl⟩
  case round =>
    obtain ⟨k, hk, rfl, hany⟩ := hrel
    by_cases hlt : k < m
    · have hck := hc k hlt
      have hfk := hid (hf.out k hlt)
      cases hD : D k
      all_goals
        have HD := hid hD
        clear hD
        go_wp2_with (go_at_call 7; refine hfk.out.mono ?_; rintro e w' ⟨rfl, rfl⟩; rw [HD.out])
      · go_round
        case rel => exact ⟨k + 1, by omega, by go_num, show anyB D (k + 1) = false by rw [anyB_succ, hany.out, HD.out]; rfl⟩
        case measure => simp [intOf]; omega
      · go_ret
        refine ⟨⟨_, rfl, ?_⟩, rfl⟩
        rw [anyB_true (k := k) hlt HD.out]
        simp
    · go_wp2_with fail
      go_ret
      refine ⟨⟨_, rfl, ?_⟩, rfl⟩
      have e : k = m := by omega
      rw [← e, hany.out]
      rfl

/-- slices.ContainsFunc. -/
theorem contains_any (w : World) (c m : Nat) (V : Nat → Value) (D : Nat → Bool) (hm : m ≤ 1000000) (hc : ∀ i, i < m → w.cell? ⟨c, i, none⟩ = some (V i))
    (hf : Hid (∀ i, i < m → Calls Try.prog 7 #[V i] w fun e w' => e = .returned (.bool (D i)) ∧ w' = w)) :
    Calls Try.prog 13 #[.slice (some ⟨c, 0, none⟩) m m, .func (.func 7) #[] #[]] w fun e w' => e = .returned (.bool (anyB D m)) ∧ w' = w := by
  have hcall := hid (index_any w c m V D hm hc hf)
  go_enter Try.func13, Try.ntmps13
  go_wp2_with fail
  refine hcall.out.mono ?_
  rintro e w' ⟨⟨z, rfl, hz⟩, rfl⟩
  have HZ := hid hz
  clear hz
  go_wp2_with fail
  go_ret
  exact ⟨by rw [← HZ.out]; rfl, rfl⟩

theorem as32_32 (v : Value) (w : World) : (Instr.typeAssert (.iface 32 v) 26 32 true).run Try.prog w = .ok (.tuple #[v, .bool true]) w := by kernel_rfl
theorem as33_32 (v : Value) (w : World) : (Instr.typeAssert (.iface 33 v) 26 32 true).run Try.prog w = .ok (.tuple #[.pointer none, .bool false]) w := by kernel_rfl
theorem as33_33 (v : Value) (w : World) : (Instr.typeAssert (.iface 33 v) 26 33 true).run Try.prog w = .ok (.tuple #[v, .bool true]) w := by kernel_rfl
theorem as33_34 (v : Value) (w : World) : (Instr.typeAssert (.iface 33 v) 26 34 true).run Try.prog w = .ok (.tuple #[.pointer none, .bool false]) w := by kernel_rfl
theorem as33_35 (v : Value) (w : World) : (Instr.typeAssert (.iface 33 v) 26 35 true).run Try.prog w = .ok (.tuple #[.pointer none, .bool false]) w := by kernel_rfl
theorem as34_32 (v : Value) (w : World) : (Instr.typeAssert (.iface 34 v) 26 32 true).run Try.prog w = .ok (.tuple #[.pointer none, .bool false]) w := by kernel_rfl
theorem as34_33 (v : Value) (w : World) : (Instr.typeAssert (.iface 34 v) 26 33 true).run Try.prog w = .ok (.tuple #[.pointer none, .bool false]) w := by kernel_rfl
theorem as34_34 (v : Value) (w : World) : (Instr.typeAssert (.iface 34 v) 26 34 true).run Try.prog w = .ok (.tuple #[v, .bool true]) w := by kernel_rfl
theorem as34_35 (v : Value) (w : World) : (Instr.typeAssert (.iface 34 v) 26 35 true).run Try.prog w = .ok (.tuple #[.pointer none, .bool false]) w := by kernel_rfl
theorem as35_32 (v : Value) (w : World) : (Instr.typeAssert (.iface 35 v) 26 32 true).run Try.prog w = .ok (.tuple #[.pointer none, .bool false]) w := by kernel_rfl
theorem as35_33 (v : Value) (w : World) : (Instr.typeAssert (.iface 35 v) 26 33 true).run Try.prog w = .ok (.tuple #[.pointer none, .bool false]) w := by kernel_rfl
theorem as35_34 (v : Value) (w : World) : (Instr.typeAssert (.iface 35 v) 26 34 true).run Try.prog w = .ok (.tuple #[.pointer none, .bool false]) w := by kernel_rfl
theorem as35_35 (v : Value) (w : World) : (Instr.typeAssert (.iface 35 v) 26 35 true).run Try.prog w = .ok (.tuple #[v, .bool true]) w := by kernel_rfl
theorem as36_32 (v : Value) (w : World) : (Instr.typeAssert (.iface 36 v) 26 32 true).run Try.prog w = .ok (.tuple #[.pointer none, .bool false]) w := by kernel_rfl
theorem as36_33 (v : Value) (w : World) : (Instr.typeAssert (.iface 36 v) 26 33 true).run Try.prog w = .ok (.tuple #[.pointer none, .bool false]) w := by kernel_rfl
theorem as36_34 (v : Value) (w : World) : (Instr.typeAssert (.iface 36 v) 26 34 true).run Try.prog w = .ok (.tuple #[.pointer none, .bool false]) w := by kernel_rfl
theorem as36_35 (v : Value) (w : World) : (Instr.typeAssert (.iface 36 v) 26 35 true).run Try.prog w = .ok (.tuple #[.pointer none, .bool false]) w := by kernel_rfl
theorem as36_36 (v : Value) (w : World) : (Instr.typeAssert (.iface 36 v) 26 36 true).run Try.prog w = .ok (.tuple #[v, .bool true]) w := by kernel_rfl
theorem as41_32 (v : Value) (w : World) : (Instr.typeAssert (.iface 41 v) 26 32 true).run Try.prog w = .ok (.tuple #[.pointer none, .bool false]) w := by kernel_rfl
theorem as41_33 (v : Value) (w : World) : (Instr.typeAssert (.iface 41 v) 26 33 true).run Try.prog w = .ok (.tuple #[.pointer none, .bool false]) w := by kernel_rfl
theorem as41_34 (v : Value) (w : World) : (Instr.typeAssert (.iface 41 v) 26 34 true).run Try.prog w = .ok (.tuple #[.pointer none, .bool false]) w := by kernel_rfl
theorem as41_35 (v : Value) (w : World) : (Instr.typeAssert (.iface 41 v) 26 35 true).run Try.prog w = .ok (.tuple #[.pointer none, .bool false]) w := by kernel_rfl
theorem as41_36 (v : Value) (w : World) : (Instr.typeAssert (.iface 41 v) 26 36 true).run Try.prog w = .ok (.tuple #[.pointer none, .bool false]) w := by kernel_rfl
theorem as41_41 (v : Value) (w : World) : (Instr.typeAssert (.iface 41 v) 26 41 true).run Try.prog w = .ok (.tuple #[v, .bool true]) w := by kernel_rfl
theorem as44_32 (v : Value) (w : World) : (Instr.typeAssert (.iface 44 v) 26 32 true).run Try.prog w = .ok (.tuple #[.pointer none, .bool false]) w := by kernel_rfl
theorem as44_33 (v : Value) (w : World) : (Instr.typeAssert (.iface 44 v) 26 33 true).run Try.prog w = .ok (.tuple #[.pointer none, .bool false]) w := by kernel_rfl
theorem as44_34 (v : Value) (w : World) : (Instr.typeAssert (.iface 44 v) 26 34 true).run Try.prog w = .ok (.tuple #[.pointer none, .bool false]) w := by kernel_rfl
theorem as44_35 (v : Value) (w : World) : (Instr.typeAssert (.iface 44 v) 26 35 true).run Try.prog w = .ok (.tuple #[.pointer none, .bool false]) w := by kernel_rfl
theorem as44_36 (v : Value) (w : World) : (Instr.typeAssert (.iface 44 v) 26 36 true).run Try.prog w = .ok (.tuple #[.pointer none, .bool false]) w := by kernel_rfl
theorem as44_41 (v : Value) (w : World) : (Instr.typeAssert (.iface 44 v) 26 41 true).run Try.prog w = .ok (.tuple #[.pointer none, .bool false]) w := by kernel_rfl
theorem as44_44 (v : Value) (w : World) : (Instr.typeAssert (.iface 44 v) 26 44 true).run Try.prog w = .ok (.tuple #[v, .bool true]) w := by kernel_rfl
theorem as47_32 (v : Value) (w : World) : (Instr.typeAssert (.iface 47 v) 26 32 true).run Try.prog w = .ok (.tuple #[.pointer none, .bool false]) w := by kernel_rfl
theorem as47_33 (v : Value) (w : World) : (Instr.typeAssert (.iface 47 v) 26 33 true).run Try.prog w = .ok (.tuple #[.pointer none, .bool false]) w := by kernel_rfl
theorem as47_34 (v : Value) (w : World) : (Instr.typeAssert (.iface 47 v) 26 34 true).run Try.prog w = .ok (.tuple #[.pointer none, .bool false]) w := by kernel_rfl
theorem as47_35 (v : Value) (w : World) : (Instr.typeAssert (.iface 47 v) 26 35 true).run Try.prog w = .ok (.tuple #[.pointer none, .bool false]) w := by kernel_rfl
theorem as47_36 (v : Value) (w : World) : (Instr.typeAssert (.iface 47 v) 26 36 true).run Try.prog w = .ok (.tuple #[.pointer none, .bool false]) w := by kernel_rfl
theorem as47_41 (v : Value) (w : World) : (Instr.typeAssert (.iface 47 v) 26 41 true).run Try.prog w = .ok (.tuple #[.pointer none, .bool false]) w := by kernel_rfl
theorem as47_44 (v : Value) (w : World) : (Instr.typeAssert (.iface 47 v) 26 44 true).run Try.prog w = .ok (.tuple #[.pointer none, .bool false]) w := by kernel_rfl
theorem as47_47 (v : Value) (w : World) : (Instr.typeAssert (.iface 47 v) 26 47 true).run Try.prog w = .ok (.tuple #[v, .bool true]) w := by kernel_rfl
theorem as50_32 (v : Value) (w : World) : (Instr.typeAssert (.iface 50 v) 26 32 true).run Try.prog w = .ok (.tuple #[.pointer none, .bool false]) w := by kernel_rfl
theorem as50_33 (v : Value) (w : World) : (Instr.typeAssert (.iface 50 v) 26 33 true).run Try.prog w = .ok (.tuple #[.pointer none, .bool false]) w := by kernel_rfl
theorem as50_34 (v : Value) (w : World) : (Instr.typeAssert (.iface 50 v) 26 34 true).run Try.prog w = .ok (.tuple #[.pointer none, .bool false]) w := by kernel_rfl
theorem as50_35 (v : Value) (w : World) : (Instr.typeAssert (.iface 50 v) 26 35 true).run Try.prog w = .ok (.tuple #[.pointer none, .bool false]) w := by kernel_rfl
theorem as50_36 (v : Value) (w : World) : (Instr.typeAssert (.iface 50 v) 26 36 true).run Try.prog w = .ok (.tuple #[.pointer none, .bool false]) w := by kernel_rfl
theorem as50_41 (v : Value) (w : World) : (Instr.typeAssert (.iface 50 v) 26 41 true).run Try.prog w = .ok (.tuple #[.pointer none, .bool false]) w := by kernel_rfl
theorem as50_44 (v : Value) (w : World) : (Instr.typeAssert (.iface 50 v) 26 44 true).run Try.prog w = .ok (.tuple #[.pointer none, .bool false]) w := by kernel_rfl
theorem as50_47 (v : Value) (w : World) : (Instr.typeAssert (.iface 50 v) 26 47 true).run Try.prog w = .ok (.tuple #[.pointer none, .bool false]) w := by kernel_rfl
theorem as50_50 (v : Value) (w : World) : (Instr.typeAssert (.iface 50 v) 26 50 true).run Try.prog w = .ok (.tuple #[v, .bool true]) w := by kernel_rfl
theorem as53_32 (v : Value) (w : World) : (Instr.typeAssert (.iface 53 v) 26 32 true).run Try.prog w = .ok (.tuple #[.pointer none, .bool false]) w := by kernel_rfl
theorem as53_33 (v : Value) (w : World) : (Instr.typeAssert (.iface 53 v) 26 33 true).run Try.prog w = .ok (.tuple #[.pointer none, .bool false]) w := by kernel_rfl
theorem as53_34 (v : Value) (w : World) : (Instr.typeAssert (.iface 53 v) 26 34 true).run Try.prog w = .ok (.tuple #[.pointer none, .bool false]) w := by kernel_rfl
theorem as53_35 (v : Value) (w : World) : (Instr.typeAssert (.iface 53 v) 26 35 true).run Try.prog w = .ok (.tuple #[.pointer none, .bool false]) w := by kernel_rfl
theorem as53_36 (v : Value) (w : World) : (Instr.typeAssert (.iface 53 v) 26 36 true).run Try.prog w = .ok (.tuple #[.pointer none, .bool false]) w := by kernel_rfl
theorem as53_41 (v : Value) (w : World) : (Instr.typeAssert (.iface 53 v) 26 41 true).run Try.prog w = .ok (.tuple #[.pointer none, .bool false]) w := by kernel_rfl
theorem as53_44 (v : Value) (w : World) : (Instr.typeAssert (.iface 53 v) 26 44 true).run Try.prog w = .ok (.tuple #[.pointer none, .bool false]) w := by kernel_rfl
theorem as53_47 (v : Value) (w : World) : (Instr.typeAssert (.iface 53 v) 26 47 true).run Try.prog w = .ok (.tuple #[.pointer none, .bool false]) w := by kernel_rfl
theorem as53_50 (v : Value) (w : World) : (Instr.typeAssert (.iface 53 v) 26 50 true).run Try.prog w = .ok (.tuple #[.pointer none, .bool false]) w := by kernel_rfl
theorem as53_53 (v : Value) (w : World) : (Instr.typeAssert (.iface 53 v) 26 53 true).run Try.prog w = .ok (.tuple #[v, .bool true]) w := by kernel_rfl
attribute [local go_sem] as32_32 as33_32 as33_33 as33_34 as33_35 as34_32 as34_33 as34_34 as34_35 as35_32 as35_33 as35_34 as35_35 as36_32 as36_33 as36_34 as36_35 as36_36 as41_32 as41_33 as41_34 as41_35 as41_36 as41_41 as44_32 as44_33 as44_34 as44_35 as44_36 as44_41 as44_44 as47_32 as47_33 as47_34 as47_35 as47_36 as47_41 as47_44 as47_47 as50_32 as50_33 as50_34 as50_35 as50_36 as50_41 as50_44 as50_47 as50_50 as53_32 as53_33 as53_34 as53_35 as53_36 as53_41 as53_44 as53_47 as53_50 as53_53

set_option maxHeartbeats 1000000 in
/-- NamesColumn. -/
theorem names_any (B : Nat) (w : World) (n : Nat) : ∀ (v : Value) (b : Bool), Rep B w n v b →
    Calls Try.prog 7 #[v] w fun e w' => e = .returned (.bool b) ∧ w' = w := by
  induction n with
  | zero => intro v b h; exact h.elim
  | succ n ih =>
    intro v b h
    have IH := hid ih
    clear ih
    rcases h with ⟨p, rfl, rfl⟩ | ⟨p, rfl, rfl⟩ | ⟨p, rfl, rfl⟩ | ⟨p, rfl, rfl⟩ | ⟨a, c, m, V, D, rfl, ha, hcB, hm, h1, hk, rfl⟩ | ⟨a, x, rfl, ha, h1, hx⟩ | ⟨a, x, y, bx, byy, rfl, ha, h1, h2, hx, hy, rfl⟩ | ⟨a, x, rfl, ha, h1, hx⟩ | ⟨a, c, m, x, bx, V, D, rfl, ha, hcB, hm, h0, hx, h1, hk, rfl⟩ | ⟨a, x, y, z, bx, byy, bz, rfl, ha, h0, h1, h2, hx, hy, hz, rfl⟩
    · go_enter Try.func7, Try.ntmps7
      go_wp2_with fail
      go_ret
      exact ⟨rfl, rfl⟩
    · go_enter Try.func7, Try.ntmps7
      go_wp2_with fail
      go_ret
      exact ⟨rfl, rfl⟩
    · go_enter Try.func7, Try.ntmps7
      go_wp2_with fail
      go_ret
      exact ⟨rfl, rfl⟩
    · go_enter Try.func7, Try.ntmps7
      go_wp2_with fail
      go_ret
      exact ⟨rfl, rfl⟩
    · have hcall := hid (contains_any w c m V D hm (fun i hi => (hk i hi).1) (fun i hi => IH.out _ _ (hk i hi).2))
      clear hk
      go_enter Try.func7, Try.ntmps7
      go_wp2_with fail
      refine hcall.out.mono ?_
      rintro e w' ⟨rfl, rfl⟩
      go_wp2_with fail
      go_ret
      exact ⟨rfl, rfl⟩
    · have hcall := hid (IH.out _ _ hx)
      clear hx
      go_enter Try.func7, Try.ntmps7
      go_wp2_with fail
      refine hcall.out.mono ?_
      rintro e w' ⟨rfl, rfl⟩
      go_wp2_with fail
      go_ret
      exact ⟨rfl, rfl⟩
    · have hcall := hid (IH.out _ _ hx)
      have hcall2 := hid (IH.out _ _ hy)
      clear hx hy
      go_enter Try.func7, Try.ntmps7
      go_wp2_with fail
      refine hcall.out.mono ?_
      rintro e w' ⟨rfl, rfl⟩
      cases bx
      · go_wp2_with fail
        refine hcall2.out.mono ?_
        rintro e w' ⟨rfl, rfl⟩
        go_wp2_with fail
        go_ret
        exact ⟨rfl, rfl⟩
      · go_wp2_with fail
        go_ret
        exact ⟨rfl, rfl⟩
    · have hcall := hid (IH.out _ _ hx)
      clear hx
      go_enter Try.func7, Try.ntmps7
      go_wp2_with fail
      refine hcall.out.mono ?_
      rintro e w' ⟨rfl, rfl⟩
      go_wp2_with fail
      go_ret
      exact ⟨rfl, rfl⟩
    · have hcall2 := hid (contains_any w c m V D hm (fun i hi => (hk i hi).1) (fun i hi => IH.out _ _ (hk i hi).2))
      have hcall := hid (IH.out _ _ hx)
      clear hk hx
      go_enter Try.func7, Try.ntmps7
      go_wp2_with fail
      refine hcall.out.mono ?_
      rintro e w' ⟨rfl, rfl⟩
      cases bx
      · go_wp2_with fail
        refine hcall2.out.mono ?_
        rintro e w' ⟨rfl, rfl⟩
        go_wp2_with fail
        go_ret
        exact ⟨rfl, rfl⟩
      · go_wp2_with fail
        go_ret
        exact ⟨rfl, rfl⟩
    · have hcall := hid (IH.out _ _ hx)
      have hcall2 := hid (IH.out _ _ hy)
      have hcall3 := hid (IH.out _ _ hz)
      clear hx hy hz
      go_enter Try.func7, Try.ntmps7
      go_wp2_with fail
      refine hcall.out.mono ?_
      rintro e w' ⟨rfl, rfl⟩
      cases bx
      · go_wp2_with fail
        refine hcall2.out.mono ?_
        rintro e w' ⟨rfl, rfl⟩
        cases byy
        · go_wp2_with fail
          refine hcall3.out.mono ?_
          rintro e w' ⟨rfl, rfl⟩
          go_wp2_with fail
          go_ret
          exact ⟨rfl, rfl⟩
        · go_wp2_with fail
          go_ret
          exact ⟨rfl, rfl⟩
      · go_wp2_with fail
        go_ret
        exact ⟨rfl, rfl⟩

end Go.Proofs.Qxb6614207a
