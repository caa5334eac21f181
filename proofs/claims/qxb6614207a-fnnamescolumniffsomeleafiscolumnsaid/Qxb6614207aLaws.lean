import Derived.Test.Qxb6614207aBuild
import Derived.Test.Qxb6614207aHas
namespace Go.Proofs.Qxb6614207a
open Go.RowKit

/-- What is known of a slice of bytes that came in. -/
def Row8 (w : World) (a0 : Option Addr) (len : Nat) (Z : Nat → Int) : Prop :=
  ∀ i, i < len → ∃ b off, a0 = some ⟨b, off, none⟩ ∧ w.cell? ⟨b, off + i, none⟩ = some (.int .u8 (Z i))

theorem Row8.later {w w' : World} {a0 : Option Addr} {len : Nat} {Z : Nat → Int} (h : Row8 w a0 len Z) (hb : Below w.heap.size w w') : Row8 w' a0 len Z := by
  intro i hi
  obtain ⟨b, off, e, hc⟩ := h i hi
  exact ⟨b, off, e, cell_later hb hc⟩

/-- Out of what the row's reading gives. -/
theorem Row8.of {w : World} {x : Addr} {len cap : Nat} {zs : List Int} (hl : len ≤ cap) (hz : zs.length = cap) (h : ∀ i, i < zs.length → w.cell? (x.add i) = some (.int .u8 (zs.getD i 0))) : Row8 w (some x) len (fun i => zs.getD i 0) := by
  intro i hi
  have h0 := h 0 (by omega)
  obtain ⟨b, off, spot⟩ := x
  cases spot with
  | none => exact ⟨b, off, rfl, by have := h i (by omega); rwa [Addr.add_lit] at this⟩
  | some q =>
    simp only [Addr.add, if_true] at h0
    simp only [World.cell?] at h0
    split at h0 <;> simp at h0

/-- FnNamesColumnIffSomeLeafIsColumn. -/
theorem law1 (a0 : Option Addr) (len cap : Nat) (Z : Nat → Int) (w : World) (hm : len ≤ maxLen) (hr : Row8 w a0 len Z) :
    Calls Try.prog 3 #[.slice a0 len cap] w fun e w' => e = .returned (.bool true) ∧ Below w.heap.size w w' := by
  have HR := hid hr
  clear hr
  by_cases h1 : len ≤ 1048576
  · have hc6 := hid (bytes6_any a0 len cap w h1)
    by_cases h2 : len ≤ 65536
    · have hc8 := hid (build_any a0 len cap Z w h2 HR.out)
      go_enter Try.func3, Try.ntmps3
      go_wp2_with fail
      refine hc6.out.mono ?_
      rintro e w' ⟨rfl, rfl⟩
      go_wp2_with fail
      refine hc8.out.mono ?_
      rintro e w1 ⟨v, N, B, rfl, hrep, hb⟩
      have hrep' := hid hrep
      have hb' := hid hb
      clear hrep hb
      go_wp2_with fail
      refine (names_any B w1 N v _ hrep'.out).mono ?_
      rintro e w2 ⟨rfl, rfl⟩
      go_wp2_with fail
      refine (has_any a0 len cap Z _ h2 (HR.out.later hb'.out)).mono ?_
      rintro e w3 ⟨rfl, rfl⟩
      go_wp2_with fail
      go_ret
      exact ⟨by simp, hb'.out⟩
    · go_enter Try.func3, Try.ntmps3
      go_wp2_with fail
      refine hc6.out.mono ?_
      rintro e w' ⟨rfl, rfl⟩
      go_wp2_with fail
      go_ret
      exact ⟨rfl, Below.refl _ _⟩
  · have hc6 := hid (bytes6_no a0 len cap w (by omega) hm)
    go_enter Try.func3, Try.ntmps3
    go_wp2_with fail
    refine hc6.out.mono ?_
    rintro e w' ⟨rfl, rfl⟩
    go_wp2_with fail
    go_ret
    exact ⟨rfl, Below.refl _ _⟩

/-- NamesColumn(zzBuild(..)) as one step. -/
theorem hasZ_split (Z : Nat → Int) (k m : Nat) : hasZ Z (k + m) = (hasZ Z k || hasZ (fun i => Z (k + i)) m) := by
  induction m with
  | zero => simp [hasZ, anyB]
  | succ m ih => rw [show k + (m + 1) = (k + m) + 1 from rfl, hasZ_succ, ih, hasZ_succ, Bool.or_assoc]

theorem Row8.back {w : World} {a0 : Option Addr} {len : Nat} {Z : Nat → Int} (h : Row8 w a0 len Z) {k : Nat} : Row8 w (Option.map (fun x => x.add k) a0) (len - k) (fun i => Z (k + i)) := by
  intro i hi
  obtain ⟨b, off, rfl, hc⟩ := h (k + i) (by omega)
  exact ⟨b, off + k, by simp [Addr.add_lit], by rw [Nat.add_assoc]; exact hc⟩

theorem Row8.void {w : World} {a0 : Option Addr} {n : Nat} {Z : Nat → Int} (h : n = 0) : Row8 w a0 n Z := by
  intro i hi
  omega

set_option maxRecDepth 100000 in
set_option maxHeartbeats 1000000 in
theorem law2 (a0 : Option Addr) (len cap : Nat) (q : Int) (Z : Nat → Int) (w : World) (hm : len ≤ maxLen) (hcap : len ≤ cap) (hr : Row8 w a0 len Z) :
    Calls Try.prog 5 #[.slice a0 len cap, .int .i64 q] w fun e w' => e = .returned (.bool true) ∧ Below w.heap.size w w' := by
  have HR := hid hr
  clear hr
  by_cases h1 : len ≤ 1048576
  · have hc12 := hid (bytes12_any a0 len cap q w h1)
    by_cases h2 : len ≤ 65536
    · by_cases h3 : q < 0
      · go_enter Try.func5, Try.ntmps5
        go_wp2_with fail
        refine hc12.out.mono ?_
        rintro e w' ⟨rfl, rfl⟩
        go_wp2_with fail
        go_ret
        exact ⟨rfl, Below.refl _ _⟩
      · by_cases h4 : (len : Int) < q
        · go_enter Try.func5, Try.ntmps5
          go_wp2_with fail
          refine hc12.out.mono ?_
          rintro e w' ⟨rfl, rfl⟩
          go_wp2_with fail
          go_ret
          exact ⟨rfl, Below.refl _ _⟩
        · obtain ⟨k, hk⟩ : ∃ k : Nat, q = k := ⟨q.toNat, by omega⟩
          subst hk
          have hc8 := hid (build_any a0 len cap Z w h2 HR.out)
          go_enter Try.func5, Try.ntmps5
          go_wp2_with fail
          refine hc12.out.mono ?_
          rintro e w' ⟨rfl, rfl⟩
          go_wp2_with fail
          refine hc8.out.mono ?_
          rintro e w1 ⟨v, N, B, rfl, hrep, hb⟩
          have hrep' := hid hrep
          have hb' := hid hb
          clear hrep hb
          go_wp2_with fail
          refine (names_any B w1 N v _ hrep'.out).mono ?_
          rintro e w2 ⟨rfl, rfl⟩
          go_wp2_with fail
          have hc8f := build_any a0 k cap Z w2 (by omega) (fun i hi => HR.out.later hb'.out i (by omega))
          refine hc8f.mono ?_
          clear hc8f
          rintro e w3 ⟨v2, N2, B2, rfl, hrep2, hb2⟩
          have hrep2' := hid hrep2
          have hb2' := hid (hb'.out.trans (hb2.mono hb'.out.size))
          clear hrep2 hb2
          go_wp2_with fail
          refine (names_any B2 w3 N2 v2 _ hrep2'.out).mono ?_
          rintro e w4 ⟨rfl, rfl⟩
          go_wp2_with fail
          all_goals
            refine (build_any _ (len - k) _ (fun i => Z (k + i)) _ (by omega) ?_).mono ?_
            · first
                | exact Row8.void (by omega)
                | exact (HR.out.later hb2'.out).back
            rintro e w5 ⟨v3, N3, B3, rfl, hrep3, hb3⟩
            have hrep3' := hid hrep3
            have hb3' := hid (hb2'.out.trans (hb3.mono hb2'.out.size))
            clear hrep3 hb3
            go_wp2_with fail
            refine (names_any B3 w5 N3 v3 _ hrep3'.out).mono ?_
            rintro e w6 ⟨rfl, rfl⟩
            have hsp : hasZ Z len = (hasZ Z k || hasZ (fun i => Z (k + i)) (len - k)) := by rw [← hasZ_split, show k + (len - k) = len by omega]
            rw [hsp]
            clear hsp
            generalize hasZ (fun i => Z (k + i)) (len - k) = bk
            generalize hF0 : hasZ Z k = F
            have hF := hid hF0
            clear hF0
            cases F <;> cases bk
            all_goals
              go_wp2_with fail
              refine (has_any a0 k _ Z _ (by omega) (fun i hi => HR.out.later hb3'.out i (by omega))).mono ?_
              rintro e w7 ⟨rfl, rfl⟩
              rw [hF.out]
              go_wp2_with fail
              go_ret
              exact ⟨rfl, hb3'.out⟩
    · go_enter Try.func5, Try.ntmps5
      go_wp2_with fail
      refine hc12.out.mono ?_
      rintro e w' ⟨rfl, rfl⟩
      go_wp2_with fail
      go_ret
      exact ⟨rfl, Below.refl _ _⟩
  · have hc12 := hid (bytes12_no a0 len cap q w (by omega) hm)
    go_enter Try.func5, Try.ntmps5
    go_wp2_with fail
    refine hc12.out.mono ?_
    rintro e w' ⟨rfl, rfl⟩
    go_wp2_with fail
    go_ret
    exact ⟨rfl, Below.refl _ _⟩

end Go.Proofs.Qxb6614207a
