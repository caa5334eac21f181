namespace Go.Proofs.Qxb6614338aDoor

/-! ### Functions on numbers, turned at one place -/

def upd {α : Type} (f : Nat → α) (i : Nat) (v : α) : Nat → α := fun j => if j = i then v else f j

theorem upd_same {α : Type} (f : Nat → α) (i : Nat) (v : α) : upd f i v i = v := by simp [upd]
theorem upd_other {α : Type} {f : Nat → α} {i j : Nat} {v : α} (h : j ≠ i) : upd f i v j = f j := by simp [upd, h]

/-! ### A circular list by its links -/

/-- h: the head; D: what has been taken out; rk: each entry's rank in the order. -/
structure Lk (h : Nat) (rk : Nat → Nat) (D : Nat → Prop) (N P : Nat → Nat) : Prop where
  head : ¬ D h
  nle : ∀ x, x ≤ h → ¬ D x → N x ≤ h
  ple : ∀ x, x ≤ h → ¬ D x → P x ≤ h
  nin : ∀ x, x ≤ h → ¬ D x → ¬ D (N x)
  pin : ∀ x, x ≤ h → ¬ D x → ¬ D (P x)
  np : ∀ x, x ≤ h → ¬ D x → N (P x) = x
  pn : ∀ x, x ≤ h → ¬ D x → P (N x) = x
  up : ∀ x, x ≤ h → ¬ D x → N x = h ∨ rk x < rk (N x)

variable {h : Nat} {rk : Nat → Nat} {D : Nat → Prop} {N P : Nat → Nat}

theorem Lk.n_ne (L : Lk h rk D N P) {e : Nat} (he : e < h) (hd : ¬ D e) : N e ≠ e := by
  intro e1
  rcases L.up e (by omega) hd with h1 | h1 <;> rw [e1] at h1 <;> omega

theorem Lk.p_ne (L : Lk h rk D N P) {e : Nat} (he : e < h) (hd : ¬ D e) : P e ≠ e := by
  intro e1
  have h1 := L.np e (by omega) hd
  rw [e1] at h1
  exact L.n_ne he hd h1

/-- The links behind 'unlink e'. -/
def unlN (N P : Nat → Nat) (e : Nat) : Nat → Nat := upd N (P e) (N e)
def unlP (N P : Nat → Nat) (e : Nat) : Nat → Nat := upd P (N e) (P e)

theorem Lk.unlink (L : Lk h rk D N P) {e : Nat} (he : e < h) (hd : ¬ D e) : Lk h rk (fun x => D x ∨ x = e) (unlN N P e) (unlP N P e) := by
  have hn := L.n_ne he hd
  have hp := L.p_ne he hd
  have hle : e ≤ h := by omega
  have hNe : ∀ x, x ≤ h → ¬ D x → N x = e → x = P e := fun x hx hdx h1 => by rw [← h1, L.pn x hx hdx]
  have hPe : ∀ x, x ≤ h → ¬ D x → P x = e → x = N e := fun x hx hdx h1 => by rw [← h1, L.np x hx hdx]
  have hN : ∀ x, x ≤ h → ¬ (D x ∨ x = e) → unlN N P e x ≤ h ∧ ¬ D (unlN N P e x) ∧ unlN N P e x ≠ e := by
    intro x hx hdx
    by_cases e1 : x = P e
    · subst e1
      rw [unlN, upd_same]
      exact ⟨L.nle e hle hd, L.nin e hle hd, hn⟩
    · rw [unlN, upd_other e1]
      exact ⟨L.nle x hx (fun q => hdx (.inl q)), L.nin x hx (fun q => hdx (.inl q)), fun q => e1 (hNe x hx (fun q => hdx (.inl q)) q)⟩
  have hP : ∀ x, x ≤ h → ¬ (D x ∨ x = e) → unlP N P e x ≤ h ∧ ¬ D (unlP N P e x) ∧ unlP N P e x ≠ e := by
    intro x hx hdx
    by_cases e1 : x = N e
    · subst e1
      rw [unlP, upd_same]
      exact ⟨L.ple e hle hd, L.pin e hle hd, hp⟩
    · rw [unlP, upd_other e1]
      exact ⟨L.ple x hx (fun q => hdx (.inl q)), L.pin x hx (fun q => hdx (.inl q)), fun q => e1 (hPe x hx (fun q => hdx (.inl q)) q)⟩
  refine ⟨fun q => q.elim L.head (by omega), fun x hx hdx => (hN x hx hdx).1, fun x hx hdx => (hP x hx hdx).1, fun x hx hdx q => q.elim (hN x hx hdx).2.1 (hN x hx hdx).2.2, fun x hx hdx q => q.elim (hP x hx hdx).2.1 (hP x hx hdx).2.2, ?_, ?_, ?_⟩
  · intro x hx hdx
    have hdx' : ¬ D x := fun q => hdx (.inl q)
    by_cases e1 : x = N e
    · subst e1
      rw [unlP, upd_same, unlN, upd_same]
    · rw [unlP, upd_other e1, unlN]
      by_cases e2 : P x = P e
      · have : x = e := by rw [← L.np x hx hdx', e2, L.np e hle hd]
        exact absurd (.inr this) hdx
      · rw [upd_other e2, L.np x hx hdx']
  · intro x hx hdx
    have hdx' : ¬ D x := fun q => hdx (.inl q)
    by_cases e1 : x = P e
    · subst e1
      rw [unlN, upd_same, unlP, upd_same]
    · rw [unlN, upd_other e1, unlP]
      by_cases e2 : N x = N e
      · have : x = e := by rw [← L.pn x hx hdx', e2, L.pn e hle hd]
        exact absurd (.inr this) hdx
      · rw [upd_other e2, L.pn x hx hdx']
  · intro x hx hdx
    have hdx' : ¬ D x := fun q => hdx (.inl q)
    by_cases e1 : x = P e
    · subst e1
      rw [unlN, upd_same]
      have h1 := L.up (P e) hx hdx'
      rw [L.np e hle hd] at h1
      rcases L.up e hle hd with h2 | h2
      · exact .inl h2
      · exact .inr (by omega)
    · rw [unlN, upd_other e1]
      exact L.up x hx hdx'

/-- 'relink e' behind 'unlink e' gives the links back. -/
theorem relinkN (L : Lk h rk D N P) {e : Nat} (he : e < h) (hd : ¬ D e) : upd (unlN N P e) (unlP N P e e) e = N := by
  have hn := L.n_ne he hd
  funext x
  rw [show unlP N P e e = P e by rw [unlP, upd_other (Ne.symm hn)]]
  by_cases e1 : x = P e
  · subst e1
    rw [upd_same, L.np e (by omega) hd]
  · rw [upd_other e1, unlN, upd_other e1]

theorem relinkP (L : Lk h rk D N P) {e : Nat} (he : e < h) (hd : ¬ D e) : upd (unlP N P e) (N e) e = P := by
  funext x
  by_cases e1 : x = N e
  · subst e1
    rw [upd_same, L.pn e (by omega) hd]
  · rw [upd_other e1, unlP, upd_other e1]

/-! ### The list of an order -/

/-- The entries in turn, the head first. -/
def seqOf (h : Nat) (Z : Nat → Nat) : Nat → Nat
  | 0 => h
  | i + 1 => Z i

/-- An order: a permutation of the numbers below h. -/
structure Perm (h : Nat) (Z : Nat → Nat) : Prop where
  lt : ∀ j, j < h → Z j < h
  inj : ∀ i j, i < h → j < h → Z i = Z j → i = j
  sur : ∀ e, e < h → ∃ j, j < h ∧ Z j = e

variable {Z : Nat → Nat}

theorem Perm.seq_le (V : Perm h Z) {i : Nat} (hi : i ≤ h) : seqOf h Z i ≤ h := by
  cases i with
  | zero => exact Nat.le_refl _
  | succ i => have := V.lt i (by omega); show Z i ≤ h; omega

theorem Perm.seq_inj (V : Perm h Z) {i j : Nat} (hi : i ≤ h) (hj : j ≤ h) (e : seqOf h Z i = seqOf h Z j) : i = j := by
  cases i with
  | zero =>
    cases j with
    | zero => rfl
    | succ j => have := V.lt j (by omega); have e' : h = Z j := e; omega
  | succ i =>
    cases j with
    | zero => have := V.lt i (by omega); have e' : Z i = h := e; omega
    | succ j => rw [V.inj i j (by omega) (by omega) e]

theorem Perm.seq_sur (V : Perm h Z) {x : Nat} (hx : x ≤ h) : ∃ i, i ≤ h ∧ seqOf h Z i = x := by
  by_cases e : x = h
  · exact ⟨0, Nat.zero_le _, e.symm⟩
  · obtain ⟨j, hj, e⟩ := V.sur x (by omega)
    exact ⟨j + 1, by omega, e⟩

/-- What the links hold when k entries have been laid. -/
def Laid (h : Nat) (Z : Nat → Nat) (k : Nat) (N P : Nat → Nat) : Prop :=
  ∀ i, i < k → N (seqOf h Z i) = seqOf h Z (i + 1) ∧ P (seqOf h Z (i + 1)) = seqOf h Z i

theorem Laid.step (V : Perm h Z) {k : Nat} (hk : k < h) (L : Laid h Z k N P) : Laid h Z (k + 1) (upd N (seqOf h Z k) (Z k)) (upd P (Z k) (seqOf h Z k)) := by
  intro i hi
  by_cases e : i = k
  · subst e
    exact ⟨upd_same _ _ _, upd_same _ _ _⟩
  · obtain ⟨h1, h2⟩ := L i (by omega)
    have n1 : seqOf h Z i ≠ seqOf h Z k := fun q => e (V.seq_inj (by omega) (by omega) q)
    have n2 : seqOf h Z (i + 1) ≠ Z k := fun q => e (by have := V.seq_inj (i := i + 1) (j := k + 1) (by omega) (by omega) q; omega)
    rw [upd_other n1, upd_other n2]
    exact ⟨h1, h2⟩

/-- Closed at its end, the list is a circle. -/
theorem Laid.close (V : Perm h Z) (L : Laid h Z h N P) : ∃ rk, Lk h rk (fun _ => False) (upd N (seqOf h Z h) h) (upd P h (seqOf h Z h)) := by
  have hex : ∀ x, ∃ i, x ≤ h → i ≤ h ∧ seqOf h Z i = x := fun x => by
    by_cases hx : x ≤ h
    · obtain ⟨i, hi, e⟩ := V.seq_sur hx; exact ⟨i, fun _ => ⟨hi, e⟩⟩
    · exact ⟨0, fun q => absurd q hx⟩
  let rk : Nat → Nat := fun x => Classical.choose (hex x)
  have hrk : ∀ x, x ≤ h → rk x ≤ h ∧ seqOf h Z (rk x) = x := fun x => Classical.choose_spec (hex x)
  have hrk' : ∀ i, i ≤ h → rk (seqOf h Z i) = i := fun i hi => V.seq_inj (hrk _ (V.seq_le hi)).1 hi (hrk _ (V.seq_le hi)).2
  have hN : ∀ i, i < h → upd N (seqOf h Z h) h (seqOf h Z i) = seqOf h Z (i + 1) := fun i hi => by
    rw [upd_other (fun q => by have := V.seq_inj (by omega) (Nat.le_refl _) q; omega)]; exact (L i hi).1
  have hNh : upd N (seqOf h Z h) h (seqOf h Z h) = h := upd_same _ _ _
  have hP : ∀ i, i < h → upd P h (seqOf h Z h) (seqOf h Z (i + 1)) = seqOf h Z i := fun i hi => by
    rw [upd_other (fun q => by have := V.seq_inj (i := i + 1) (j := 0) (by omega) (Nat.zero_le _) q; omega)]; exact (L i hi).2
  have hP0 : upd P h (seqOf h Z h) (seqOf h Z 0) = seqOf h Z h := upd_same _ _ _
  have hcase : ∀ x, x ≤ h → (∃ i, i < h ∧ x = seqOf h Z i) ∨ x = seqOf h Z h := fun x hx => by
    obtain ⟨i, hi, e⟩ := V.seq_sur hx
    by_cases q : i = h
    · exact .inr (by rw [← e, q])
    · exact .inl ⟨i, by omega, e.symm⟩
  have hcase' : ∀ x, x ≤ h → (∃ i, i < h ∧ x = seqOf h Z (i + 1)) ∨ x = seqOf h Z 0 := fun x hx => by
    obtain ⟨i, hi, e⟩ := V.seq_sur hx
    cases i with
    | zero => exact .inr e.symm
    | succ i => exact .inl ⟨i, by omega, e.symm⟩
  refine ⟨rk, fun q => q, ?_, ?_, fun _ _ _ q => q, fun _ _ _ q => q, ?_, ?_, ?_⟩
  · intro x hx _
    rcases hcase x hx with ⟨i, hi, rfl⟩ | rfl
    · rw [hN i hi]; exact V.seq_le (by omega)
    · rw [hNh]; exact Nat.le_refl _
  · intro x hx _
    rcases hcase' x hx with ⟨i, hi, rfl⟩ | e0
    · rw [hP i hi]; exact V.seq_le (by omega)
    · rw [e0, hP0]; exact V.seq_le (Nat.le_refl _)
  · intro x hx _
    rcases hcase' x hx with ⟨i, hi, rfl⟩ | e0
    · rw [hP i hi, hN i hi]
    · rw [e0, hP0, hNh]; rfl
  · intro x hx _
    rcases hcase x hx with ⟨i, hi, rfl⟩ | rfl
    · rw [hN i hi, hP i hi]
    · rw [hNh]; exact hP0
  · intro x hx _
    rcases hcase x hx with ⟨i, hi, rfl⟩ | rfl
    · rw [hN i hi, hrk' i (by omega), hrk' (i + 1) (by omega)]
      exact .inr (by omega)
    · exact .inl hNh

/-! ### Counting -/

/-- How many of the first n operations, those that are placed left out, have the value v. -/
def cnt (S : Nat → Int) (pl : Nat → Bool) : Nat → Int → Int
  | 0, _ => 0
  | n + 1, v => cnt S pl n v + (if pl n = false ∧ S n = v then 1 else 0)

theorem cnt_bound (S : Nat → Int) (pl : Nat → Bool) (n : Nat) (v : Int) : 0 ≤ cnt S pl n v ∧ cnt S pl n v ≤ n := by
  induction n with
  | zero => simp [cnt]
  | succ n ih => simp only [cnt]; split <;> omega

/-- One operation more is placed: its own value counts one less. -/
theorem cnt_place (S : Nat → Int) (a : Nat) (n : Nat) (v : Int) : cnt S (fun i => i == a) n v = cnt S (fun _ => false) n v - (if a < n ∧ S a = v then 1 else 0) := by
  induction n with
  | zero => simp [cnt]
  | succ n ih =>
    simp only [cnt, ih]
    by_cases e : n = a
    · subst e
      have h1 : ¬ (n < n ∧ S n = v) := by omega
      rw [if_neg h1]
      by_cases e2 : S n = v
      · simp [e2]
      · simp [e2]
    · have h1 : (n == a) = false := by simpa using e
      simp only [h1]
      by_cases e2 : a < n
      · have e3 : a < n + 1 := by omega
        by_cases e4 : S a = v <;> by_cases e5 : S n = v <;> simp [e2, e3, e4, e5] <;> omega
      · have e3 : ¬ a < n + 1 := by omega
        by_cases e5 : S n = v <;> simp [e2, e3, e5]

end Go.Proofs.Qxb6614338aDoor
