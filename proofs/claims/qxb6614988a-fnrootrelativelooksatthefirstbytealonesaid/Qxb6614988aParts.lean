import Derived.Test.Qxb6614988aProg
import Derived.WalkKit
import Derived.WalkSpells
import Derived.WalkLawsBesides
import Derived.BigGuardPart
import Derived.Lib.Strings
import Derived.Lib.IndexBytes
namespace Go.Proofs.Qxb6614988a
open Go.RowKit

theorem hid {p : Prop} (h : p) : Hid p := h

/-- rootRelative, plain. -/
def rr (d : ByteArray) : ByteArray := if (d.extract 0 1).toList == [47] then d.extract 1 d.size else d

theorem rr_yes {d : ByteArray} (h : ((d.extract 0 1).toList == [47]) = true) : rr d = d.extract 1 d.size := by rw [rr, if_pos h]
theorem rr_no {d : ByteArray} (h : ((d.extract 0 1).toList == [47]) = false) : rr d = d := by rw [rr, if_neg (by rw [h]; decide)]

theorem app_list (a b : ByteArray) : (a ++ b).data.toList = a.data.toList ++ b.data.toList := by
  obtain ⟨a⟩ := a
  obtain ⟨b⟩ := b
  rw [ByteArray.mk_append_mk]

theorem ba_ext {a b : ByteArray} (h : a.data.toList = b.data.toList) : a = b := by
  obtain ⟨⟨a⟩⟩ := a
  obtain ⟨⟨b⟩⟩ := b
  simp at h
  rw [h]

def strip (l : List UInt8) : List UInt8 := if l.take 1 == [47] then l.drop 1 else l

theorem rr_list (d : ByteArray) : (rr d).data.toList = strip d.data.toList := by
  have e : (d.extract 0 1).toList = d.data.toList.take 1 := by rw [ByteArray.toList_eq, Lib.extract_data]; simp
  unfold rr strip
  rw [e]
  split
  · exact Lib.extract_to_end d 1
  · rfl

theorem rr_slash (b : ByteArray) : rr (⟨#[47]⟩ ++ b) = b := ba_ext (by rw [rr_list, app_list]; simp [strip])

theorem rr_two (b : ByteArray) : rr (⟨#[47, 47]⟩ ++ b) = ⟨#[47]⟩ ++ b := ba_ext (by rw [rr_list, app_list, app_list]; simp [strip])

theorem rr_app (a b : ByteArray) (h : 0 < a.size) : rr (a ++ b) = rr a ++ b := ba_ext (by
  rw [rr_list, app_list, app_list, rr_list]
  have hl : a.data.toList.length = a.size := (Lib.size_eq a).symm
  cases hs : a.data.toList with
  | nil => rw [hs] at hl; simp at hl; omega
  | cons x xs =>
    simp only [strip, List.cons_append, List.take_succ_cons, List.take_zero, List.drop_succ_cons, List.drop_zero]
    split <;> rfl)

theorem rr_two_ways (s : ByteArray) : rr s = s ∨ ⟨#[47]⟩ ++ rr s = s := by
  cases hs : s.data.toList with
  | nil => exact .inl (ba_ext (by rw [rr_list, hs]; rfl))
  | cons x xs =>
    by_cases hx : x = 47
    · exact .inr (ba_ext (by rw [app_list, rr_list, hs, hx]; simp [strip]))
    · exact .inl (ba_ext (by rw [rr_list, hs]; simp [strip, hx]))

theorem rr_size (d : ByteArray) : (rr d).size ≤ d.size := by
  rw [Lib.size_eq, Lib.size_eq, rr_list]
  unfold strip
  split
  · simp
  · exact Nat.le_refl _

theorem root_any (d : ByteArray) (w : World) :
    Calls Try.prog 6 #[.string d] w fun e w' => e = .returned (.string (rr d)) ∧ w' = w := by
  by_cases h1 : 1 ≤ d.size
  · cases h2 : ((d.extract 0 1).toList == [47])
    · have H := hid (rr_no h2)
      go_enter Try.func6, Try.ntmps6
      go_wp2
      go_ret
      exact ⟨by rw [H.out]; rfl, rfl⟩
    · have H := hid (rr_yes h2)
      go_enter Try.func6, Try.ntmps6
      go_wp2
      go_ret
      exact ⟨by rw [H.out]; rfl, rfl⟩
  · have H : Hid (rr d = d) := by
      refine ba_ext ?_
      have hl : d.data.toList.length = d.size := (Lib.size_eq d).symm
      have : d.data.toList = [] := List.eq_nil_of_length_eq_zero (by omega)
      rw [rr_list, this]
      rfl
    go_enter Try.func6, Try.ntmps6
    go_wp2
    go_ret
    exact ⟨by rw [H.out]; rfl, rfl⟩

theorem bytes5_any (a b : ByteArray) (w : World) (h : a.size + b.size ≤ 1048576) : Calls Try.prog 5 #[.string a, .string b] w fun e w' => e = .returned (.bool true) ∧ w' = w := by
  go_enter Try.func5, Try.ntmps5
  go_wp2_with fail
  go_ret
  exact ⟨rfl, rfl⟩

theorem bytes5_no (a b : ByteArray) (w : World) (h : 1048576 < a.size + b.size) (ma : a.size ≤ maxLen) (mb : b.size ≤ maxLen) : Calls Try.prog 5 #[.string a, .string b] w fun e w' => e = .returned (.bool false) ∧ w' = w := by
  unfold maxLen at ma mb
  go_enter Try.func5, Try.ntmps5
  go_wp2_with fail
  all_goals
    go_ret
    exact ⟨rfl, rfl⟩

theorem law1 (a b : ByteArray) (w : World) (ma : a.size ≤ maxLen) (mb : b.size ≤ maxLen) :
    Calls Try.prog 3 #[.string a, .string b] w fun e w' => e = .returned (.bool true) ∧ w' = w := by
  by_cases h0 : a.size + b.size ≤ 1048576
  · by_cases h1 : 524288 < a.size
    · go_enter Try.func3, Try.ntmps3
      go_wp2_with fail
      refine (bytes5_any a b w h0).mono ?_
      rintro e w1 ⟨rfl, rfl⟩
      go_wp2_with fail
      all_goals (go_ret; exact ⟨rfl, rfl⟩)
    by_cases h2 : 524288 < b.size
    · go_enter Try.func3, Try.ntmps3
      go_wp2_with fail
      refine (bytes5_any a b w h0).mono ?_
      rintro e w1 ⟨rfl, rfl⟩
      go_wp2_with fail
      all_goals (go_ret; exact ⟨rfl, rfl⟩)
    have S1 := hid (rr_slash b)
    by_cases h3 : 0 < a.size
    · have S2 := hid (rr_app a b h3)
      have S3 := rr_size a
      go_enter Try.func3, Try.ntmps3
      go_wp2_with fail
      refine (bytes5_any a b w h0).mono ?_
      rintro e w1 ⟨rfl, rfl⟩
      go_wp2_with fail
      refine (root_any _ _).mono ?_
      rintro e w2 ⟨rfl, rfl⟩
      rw [S1.out]
      go_wp2_with fail
      refine (root_any _ _).mono ?_
      rintro e w3 ⟨rfl, rfl⟩
      rw [S2.out]
      go_wp2_with fail
      refine (root_any _ _).mono ?_
      rintro e w4 ⟨rfl, rfl⟩
      go_wp2_with fail
      go_ret
      exact ⟨rfl, rfl⟩
    · have ha0 : a.size = 0 := by omega
      clear h1 h3
      go_enter Try.func3, Try.ntmps3
      go_wp2_with fail
      refine (bytes5_any a b w h0).mono ?_
      rintro e w1 ⟨rfl, rfl⟩
      go_wp2_with fail
      refine (root_any _ _).mono ?_
      rintro e w2 ⟨rfl, rfl⟩
      rw [S1.out]
      go_wp2_with fail
      go_ret
      exact ⟨rfl, rfl⟩
  · go_enter Try.func3, Try.ntmps3
    go_wp2_with fail
    refine (bytes5_no a b w (by omega) ma mb).mono ?_
    rintro e w1 ⟨rfl, rfl⟩
    go_wp2_with fail
    all_goals (go_ret; exact ⟨rfl, rfl⟩)

theorem bytes7_any (a : ByteArray) (w : World) (h : a.size ≤ 1048576) : Calls Try.prog 7 #[.string a] w fun e w' => e = .returned (.bool true) ∧ w' = w := by
  go_enter Try.func7, Try.ntmps7
  go_wp2_with fail
  go_ret
  exact ⟨rfl, rfl⟩

theorem bytes7_no (a : ByteArray) (w : World) (h : 1048576 < a.size) (ma : a.size ≤ maxLen) : Calls Try.prog 7 #[.string a] w fun e w' => e = .returned (.bool false) ∧ w' = w := by
  unfold maxLen at ma
  go_enter Try.func7, Try.ntmps7
  go_wp2_with fail
  all_goals
    go_ret
    exact ⟨rfl, rfl⟩

theorem law2 (s : ByteArray) (w : World) (ms : s.size ≤ maxLen) :
    Calls Try.prog 4 #[.string s] w fun e w' => e = .returned (.bool true) ∧ w' = w := by
  by_cases h0 : s.size ≤ 1048576
  · have S1 := hid (rr_slash s)
    have S2 := hid (rr_two s)
    go_enter Try.func4, Try.ntmps4
    go_wp2_with fail
    refine (bytes7_any s w h0).mono ?_
    rintro e w1 ⟨rfl, rfl⟩
    go_wp2_with fail
    refine (root_any _ _).mono ?_
    rintro e w2 ⟨rfl, rfl⟩
    go_wp2_with fail
    refine (root_any _ _).mono ?_
    rintro e w3 ⟨rfl, rfl⟩
    rw [S2.out]
    go_wp2_with fail
    refine (root_any _ _).mono ?_
    rintro e w4 ⟨rfl, rfl⟩
    rw [S1.out]
    go_wp2_with fail
    refine (root_any _ _).mono ?_
    rintro e w5 ⟨rfl, rfl⟩
    have hw := rr_two_ways s
    have hs := rr_size s
    generalize rr s = r at *
    by_cases hr : r = s
    · subst hr
      clear hw
      go_wp2_with fail
      go_ret
      exact ⟨rfl, rfl⟩
    · have e1 : (r.toList == s.toList) = false := by
        refine beq_eq_false_iff_ne.2 fun h => hr (ba_ext ?_)
        rwa [ByteArray.toList_eq, ByteArray.toList_eq] at h
      have e2 : ((({ data := #[47] } : ByteArray) ++ r).toList == s.toList) = true := by
        rcases hw with h | h
        · exact absurd h hr
        · rw [h]; exact beq_self_eq_true _
      clear hw hr
      go_wp2_with fail
      go_ret
      exact ⟨by rw [← e2]; rfl, rfl⟩
  · go_enter Try.func4, Try.ntmps4
    go_wp2_with fail
    refine (bytes7_no s w (by omega) ms).mono ?_
    rintro e w1 ⟨rfl, rfl⟩
    go_wp2_with fail
    all_goals (go_ret; exact ⟨rfl, rfl⟩)

end Go.Proofs.Qxb6614988a
