import Derived.Laws.FloatArith
namespace Go.Proofs.Qxb6614982a
open Go Ieee

theorem dbl_binade : double.binade = 4503599627370496 := by decide
theorem dbl_inf : double.infRung = 9218868437227405312 := by decide
theorem dbl_sign : double.signWeight = 9223372036854775808 := by decide
theorem dbl_least : double.leastPlace = -1074 := by decide

/-- A word that is no NaN is equal to itself. -/
theorem order_self (d : Datum) (h : d.isNaN = false) : d.order d = some .eq := by
  cases d with
  | number s m i => simp [Datum.order, Std.ReflCmp.compare_self]
  | infinity s => simp [Datum.order, Std.ReflCmp.compare_self]
  | nan s t => simp [Datum.isNaN] at h

/-- What 'nearest' writes reads as no NaN. -/
theorem read_nearest (neg : Bool) (mag : Nat) (place : Int) : (double.read (double.nearest neg mag place)).isNaN = false := by
  obtain ⟨r, hr, e⟩ : ∃ r, r ≤ double.infRung ∧ double.nearest neg mag place = double.word neg r := by
    unfold Format.nearest
    split
    · exact ⟨0, Nat.zero_le _, rfl⟩
    · exact ⟨_, Nat.min_le_right _ _, rfl⟩
  rw [e]
  have hm : double.word neg r % double.signWeight = r := by
    unfold Format.word
    rw [dbl_inf] at hr
    rw [dbl_sign]
    split <;> omega
  unfold Format.read
  simp only [hm]
  split
  · rfl
  · split
    · rfl
    · split
      · rfl
      · omega

theorem self_eq (neg : Bool) (mag : Nat) (place : Int) : double.order (double.nearest neg mag place) (double.nearest neg mag place) = some .eq := order_self _ (read_nearest neg mag place)

/-- A small whole number above nought reads as a number that isn't nought. -/
theorem read_small (n : Nat) (h1 : 1 ≤ n) (h2 : n ≤ 65536) : ∃ m e, double.read (double.nearest false n 0) = .number false m e ∧ m ≠ 0 := by
  have hlog : n.log2 ≤ 16 := by
    have := Nat.log2_self_le (n := n) (by omega)
    refine Nat.le_of_not_lt fun hlt => ?_
    have h3 : 2 ^ 17 ≤ 2 ^ n.log2 := Nat.pow_le_pow_right (by decide) hlt
    omega
  have hlo := Nat.log2_self_le (n := n) (by omega)
  have hhi := Nat.lt_log2_self (n := n)
  generalize hL : n.log2 = L at *
  have hlast : max ((0 : Int) + (L : Int) - (double.fractionBits : Int)) double.leastPlace = (L : Int) - 52 := by
    rw [dbl_least]
    show max ((0 : Int) + (L : Int) - 52) (-1074) = _
    omega
  have hk : (0 - ((L : Int) - 52)).toNat = 52 - L := by omega
  have hd : (((L : Int) - 52) - 0).toNat = 0 := by omega
  have hcut : ∀ q : Nat, Toward.even.cut false q 0 = q := by
    intro q
    simp [Toward.cut, Nat.mod_one]
  have hkept1 : 4503599627370496 ≤ n <<< (52 - L) := by
    rw [Nat.shiftLeft_eq]
    calc 4503599627370496 = 2 ^ L * 2 ^ (52 - L) := by rw [← Nat.pow_add, show L + (52 - L) = 52 by omega]
      _ ≤ n * 2 ^ (52 - L) := Nat.mul_le_mul_right _ hlo
  have hkept2 : n <<< (52 - L) < 9007199254740992 := by
    rw [Nat.shiftLeft_eq]
    calc n * 2 ^ (52 - L) < 2 ^ (L + 1) * 2 ^ (52 - L) := Nat.mul_lt_mul_of_pos_right hhi (Nat.two_pow_pos _)
      _ = 9007199254740992 := by rw [← Nat.pow_add, show L + 1 + (52 - L) = 53 by omega]
  have hle : ((L : Int) - 52 - double.leastPlace).toNat = L + 1022 := by rw [dbl_least]; omega
  have hnear : double.nearest false n 0 = (L + 1022) * 4503599627370496 + n <<< (52 - L) := by
    unfold Format.nearest
    rw [if_neg (by omega)]
    simp only [hL, hlast, hk, hd, hcut, hle, dbl_binade, dbl_inf, Format.word]
    rw [Nat.min_eq_left (by omega)]
    rfl
  generalize n <<< (52 - L) = q at *
  rw [hnear]
  unfold Format.read
  simp only [dbl_sign, dbl_binade, dbl_inf]
  rw [Nat.mod_eq_of_lt (by omega), if_neg (by omega), if_pos (by omega)]
  have e : (((L + 1022) * 4503599627370496 + q) / 9223372036854775808 % 2 == 1) = false := by
    rw [Nat.div_eq_of_lt (by omega)]
    rfl
  rw [e]
  exact ⟨_, _, rfl, by omega⟩

theorem read_zero : double.read (double.nearest false 0 0) = .number false 0 (-1074) := by decide +kernel

/-- The quotient of two small whole numbers, the second above nought: it is there, and it is equal to itself. -/
theorem quo_small (k j : Nat) (hk : k ≤ 65536) (hj1 : 1 ≤ j) (hj : j ≤ 65536) :
    ∃ r, floatBits .quo .f64 (floatOfInt .f64 (k : Int)) (floatOfInt .f64 (j : Int)) = some r ∧ FloatKind.f64.format.order r r = some .eq := by
  have ek : ∀ n : Nat, floatOfInt .f64 (n : Int) = double.nearest false n 0 := by
    intro n
    show double.nearest (decide ((n : Int) < 0)) (n : Int).natAbs 0 = _
    rw [decide_eq_false (by omega), Int.natAbs_natCast]
  rw [ek, ek]
  obtain ⟨m, e, hr, hm⟩ := read_small j hj1 hj
  obtain ⟨mk, e2, hr2⟩ : ∃ m e, double.read (double.nearest false k 0) = .number false m e := by
    by_cases h0 : k = 0
    · subst h0; exact ⟨_, _, read_zero⟩
    · obtain ⟨m2, e2, h2, _⟩ := read_small k (by omega) hk
      exact ⟨m2, e2, h2⟩
  show ∃ r, double.div _ _ = some r ∧ double.order r r = some .eq
  unfold Format.div
  rw [hr, hr2]
  simp only [Datum.quotient, if_neg hm, Option.map_some]
  exact ⟨_, rfl, self_eq _ _ _⟩

end Go.Proofs.Qxb6614982a
