import Derived.Test.Qxb6614207aStack
namespace Go.Proofs.Qxb6614207a
open Go.RowKit

/-- zzHasColumn. -/
theorem has_any (a0 : Option Addr) (len cap : Nat) (Z : Nat → Int) (w : World) (hlen : len ≤ 65536)
    (hc : ∀ i, i < len → ∃ b off, a0 = some ⟨b, off, none⟩ ∧ w.cell? ⟨b, off + i, none⟩ = some (.int .u8 (Z i))) :
    Calls Try.prog 9 #[.slice a0 len cap] w fun e w' => e = .returned (.bool (hasZ Z len)) ∧ w' = w := by
  have HC := hid hc
  clear hc
  go_enter Try.func9, Try.ntmps9
  go_wp2_with fail
  go_loop [3] (fun j => ∃ k : Nat, k ≤ len ∧ j = .int .i64 k ∧ Hid (hasZ Z k = false)) (fun j => len - (intOf j).toNat)
  case atStart => exact ⟨0, Nat.zero_le _, rfl, rfl⟩
  case round =>
    obtain ⟨k, hk, rfl, hz⟩ := hrel
    by_cases hlt : k < len
    · obtain ⟨b, off, rfl, hck⟩ := HC.out k hlt
      generalize hZ0 : Z k = z at *
      have hZ := hid hZ0
      clear hZ0
      by_cases h0 : z = 0
      · have e0 : (z == 0) = true := beq_iff_eq.2 h0
        have hzz := hid h0
        clear h0
        go_wp2_with fail
        go_ret
        exact ⟨by rw [hasZ, anyB_true (k := k) hlt (by rw [hZ.out, hzz.out]; rfl)]; rfl, rfl⟩
      · have e0 : (z == 0) = false := beq_eq_false_iff_ne.2 h0
        clear h0
        have he := hid e0
        go_wp2_with fail
        go_round
        case rel => exact ⟨k + 1, by omega, by go_num, show hasZ Z (k + 1) = false by rw [hasZ_succ, hz.out, hZ.out, he.out]; rfl⟩
        case measure => simp [intOf]; omega
    · have e := hid (show k = len by omega)
      go_wp2_with fail
      go_ret
      exact ⟨by rw [← e.out, hz.out]; rfl, rfl⟩

/-- The bound on the length: zzBytes. -/
theorem bytes6_any (a0 : Option Addr) (len cap : Nat) (w : World) (hlen : len ≤ 1048576) :
    Calls Try.prog 6 #[.slice a0 len cap] w fun e w' => e = .returned (.bool true) ∧ w' = w := by
  go_enter Try.func6, Try.ntmps6
  go_wp2_with fail
  go_ret
  exact ⟨rfl, rfl⟩

theorem bytes6_no (a0 : Option Addr) (len cap : Nat) (w : World) (hlen : 1048576 < len) (hm : len ≤ maxLen) :
    Calls Try.prog 6 #[.slice a0 len cap] w fun e w' => e = .returned (.bool false) ∧ w' = w := by
  unfold maxLen at hm
  go_enter Try.func6, Try.ntmps6
  go_wp2_with fail
  go_ret
  exact ⟨rfl, rfl⟩

theorem bytes12_any (a0 : Option Addr) (len cap : Nat) (q : Int) (w : World) (hlen : len ≤ 1048576) :
    Calls Try.prog 12 #[.slice a0 len cap, .int .i64 q] w fun e w' => e = .returned (.bool true) ∧ w' = w := by
  go_enter Try.func12, Try.ntmps12
  go_wp2_with fail
  go_ret
  exact ⟨rfl, rfl⟩

theorem bytes12_no (a0 : Option Addr) (len cap : Nat) (q : Int) (w : World) (hlen : 1048576 < len) (hm : len ≤ maxLen) :
    Calls Try.prog 12 #[.slice a0 len cap, .int .i64 q] w fun e w' => e = .returned (.bool false) ∧ w' = w := by
  unfold maxLen at hm
  go_enter Try.func12, Try.ntmps12
  go_wp2_with fail
  go_ret
  exact ⟨rfl, rfl⟩

end Go.Proofs.Qxb6614207a
