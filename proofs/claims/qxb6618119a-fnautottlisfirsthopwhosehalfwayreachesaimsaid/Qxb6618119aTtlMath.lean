/- The plain laws: no Go in sight. -/
namespace Go.Proofs.Qxb6618119a.Ttl

/-- 1 + f + .. + f^t -/
def R (f : Int) : Nat → Int
  | 0 => 1
  | t + 1 => R f t * f + 1
/-- f^k -/
def Pw (f : Int) : Nat → Int
  | 0 => 1
  | k + 1 => Pw f k * f
/-- the sum of the first k powers -/
def Sm (f : Int) : Nat → Int
  | 0 => 0
  | k + 1 => Sm f k + Pw f k

theorem pw_nonneg (f : Int) (h : 0 ≤ f) (k : Nat) : 0 ≤ Pw f k := by
  induction k with
  | zero => simp [Pw]
  | succ k ih => exact Int.mul_nonneg ih h

theorem sm_step (f : Int) (k : Nat) : Sm f k * f + 1 = Sm f (k + 1) := by
  induction k with
  | zero => simp [Sm, Pw]
  | succ k ih =>
    have e : Sm f (k + 1) * f = Sm f k * f + Pw f (k + 1) := by
      show (Sm f k + Pw f k) * f = _
      rw [Int.add_mul]; rfl
    show Sm f (k + 1) * f + 1 = Sm f (k + 1) + Pw f (k + 1)
    omega

theorem r_sm (f : Int) (t : Nat) : R f t = Sm f (t + 1) := by
  induction t with
  | zero => simp [R, Sm, Pw]
  | succ t ih =>
    show R f t * f + 1 = _
    rw [ih]; exact sm_step f (t + 1)

theorem sm_le (f : Int) (h : 0 ≤ f) (a d : Nat) : Sm f a ≤ Sm f (a + d) := by
  induction d with
  | zero => exact Int.le_refl _
  | succ d ih =>
    have := pw_nonneg f h (a + d)
    show Sm f a ≤ Sm f (a + d) + Pw f (a + d)
    omega

theorem sm_mono (f : Int) (h : 0 ≤ f) {a b : Nat} (hab : a ≤ b) : Sm f a ≤ Sm f b := by
  have := sm_le f h a (b - a)
  rwa [Nat.add_sub_cancel' hab] at this

theorem sm_nonneg (f : Int) (h : 0 ≤ f) (k : Nat) : 0 ≤ Sm f k := by
  have := sm_mono f h (Nat.zero_le k); simpa [Sm] using this

theorem r_pos (f : Int) (h : 0 ≤ f) (t : Nat) : 1 ≤ R f t := by
  rw [r_sm]
  have := sm_mono f h (Nat.succ_le_succ (Nat.zero_le t))
  simpa [Sm, Pw] using this

theorem r_mono (f : Int) (h : 0 ≤ f) {a b : Nat} (hab : a ≤ b) : R f a ≤ R f b := by
  rw [r_sm, r_sm]; exact sm_mono f h (Nat.succ_le_succ hab)

theorem r_mono_f (f g : Int) (h : 0 ≤ f) (hfg : f ≤ g) (t : Nat) : R f t ≤ R g t := by
  induction t with
  | zero => exact Int.le_refl _
  | succ t ih =>
    show R f t * f + 1 ≤ R g t * g + 1
    have h1 := r_pos f h t
    have h2 : R f t * f ≤ R g t * g := Int.mul_le_mul ih hfg h (by omega)
    omega

/-- the point halfway reaches the aim -/
def half (f aim : Int) (t : Nat) : Bool := decide (aim ≤ 100 * (R f t + R f (t + 1)))

/-- what the program must answer -/
def Is (f aim : Int) (t : Nat) : Prop :=
  1 ≤ t ∧ t ≤ 8 ∧ (∀ s, 1 ≤ s → s < t → half f aim s = false) ∧ (t < 8 → half f aim t = true)

theorem half_le {f aim : Int} {t : Nat} (h : half f aim t = true) : aim ≤ 100 * (R f t + R f (t + 1)) := by
  simpa [half] using h
theorem half_of {f aim : Int} {t : Nat} (h : aim ≤ 100 * (R f t + R f (t + 1))) : half f aim t = true := by
  simpa [half] using h
theorem half_no {f aim : Int} {t : Nat} (h : 100 * (R f t + R f (t + 1)) < aim) : half f aim t = false := by
  simp [half]; exact h

theorem is_size {f a b : Int} {s t : Nat} (hab : a ≤ b) (hs : Is f a s) (ht : Is f b t) : s ≤ t := by
  obtain ⟨s1, s8, sn, sy⟩ := hs
  obtain ⟨t1, t8, tn, ty⟩ := ht
  by_cases h : t < s
  · have h1 := ty (by omega)
    have h2 := sn t t1 h
    have h3 := half_le h1
    have h4 : half f a t = true := half_of (by omega)
    rw [h4] at h2; cases h2
  · omega

theorem is_fan {f g a : Int} {s t : Nat} (h : 0 ≤ f) (hfg : f ≤ g) (hs : Is f a s) (ht : Is g a t) : t ≤ s := by
  obtain ⟨s1, s8, sn, sy⟩ := hs
  obtain ⟨t1, t8, tn, ty⟩ := ht
  by_cases hh : s < t
  · have h1 := sy (by omega)
    have h2 := tn s s1 hh
    have h3 := half_le h1
    have h5 := r_mono_f f g h hfg s
    have h6 := r_mono_f f g h hfg (s + 1)
    have h4 : half g a s = true := half_of (by omega)
    rw [h4] at h2; cases h2
  · omega

/-! ### autoTTL's round -/
/-- the first break -/
theorem brk1 {f aim : Int} {k : Nat} (hf : 0 ≤ f) (h : (aim.tdiv 100).tdiv (R f k) < f) : half f aim k = true := by
  apply half_of
  have hp := r_pos f hf k
  have hp2 := r_pos f hf (k + 1)
  by_cases ha : aim ≤ 0
  · omega
  · have e1 : aim.tdiv 100 = aim / 100 := Int.tdiv_eq_ediv_of_nonneg (by omega)
    have e2 : (aim / 100).tdiv (R f k) = (aim / 100) / (R f k) := Int.tdiv_eq_ediv_of_nonneg (by omega)
    rw [e1, e2] at h
    have h3 : aim / 100 < f * R f k := (Int.ediv_lt_iff_lt_mul (by omega)).1 h
    have h4 : R f (k + 1) = R f k * f + 1 := rfl
    rw [Int.mul_comm f] at h3
    omega

/-- no first break: the product stays small -/
theorem nobrk1 {f aim : Int} {k : Nat} (hf : 0 ≤ f) (h : f ≤ (aim.tdiv 100).tdiv (R f k)) : 0 ≤ R f k * f ∧ (R f k * f ≤ aim / 100 ∨ (f = 0 ∧ R f k * f = 0)) := by
  have hp := r_pos f hf k
  refine ⟨Int.mul_nonneg (by omega) hf, ?_⟩
  by_cases ha : 0 ≤ aim
  · left
    have e1 : aim.tdiv 100 = aim / 100 := Int.tdiv_eq_ediv_of_nonneg (by omega)
    have e2 : (aim / 100).tdiv (R f k) = (aim / 100) / (R f k) := Int.tdiv_eq_ediv_of_nonneg (by omega)
    rw [e1, e2] at h
    have := (Int.le_ediv_iff_mul_le (by omega)).1 h
    rwa [Int.mul_comm] at this
  · right
    have h1 : aim.tdiv 100 ≤ 0 := by
      have : aim.tdiv 100 = -((-aim).tdiv 100) := by rw [Int.neg_tdiv]; omega
      have h2 := Int.tdiv_nonneg (a := -aim) (b := 100) (by omega) (by omega)
      omega
    have h3 : (aim.tdiv 100).tdiv (R f k) ≤ 0 := by
      have e : (aim.tdiv 100).tdiv (R f k) = -((-(aim.tdiv 100)).tdiv (R f k)) := by rw [Int.neg_tdiv]; omega
      have h2 := Int.tdiv_nonneg (a := -(aim.tdiv 100)) (b := R f k) (by omega) (by omega)
      omega
    have h4 : f = 0 := by omega
    exact ⟨h4, by rw [h4]; simp⟩

/-! ### zzGeoSum's round -/
theorem geo_cap {f lim p : Int} {k t : Nat} (hf : 0 ≤ f) (hk : k ≤ t) (hp : lim ≤ p) (h : p = Pw f k ∨ (p = lim ∧ lim ≤ Pw f k)) : lim ≤ R f t := by
  have h1 : lim ≤ Pw f k := by rcases h with h | h <;> omega
  rw [r_sm]
  have h2 := sm_mono f hf (Nat.succ_le_succ hk)
  have h3 := sm_nonneg f hf k
  have h4 : Sm f (k + 1) = Sm f k + Pw f k := rfl
  have h5 : Sm f k.succ = Sm f (k + 1) := rfl
  have h6 : Sm f t.succ = Sm f (t + 1) := rfl
  omega

theorem geo_sum {f lim : Int} {k t : Nat} (hf : 0 ≤ f) (hk : k ≤ t) (hp : lim ≤ Sm f k + Pw f k) : lim ≤ R f t := by
  rw [r_sm]
  have h2 := sm_mono f hf (Nat.succ_le_succ hk)
  have h4 : Sm f (k + 1) = Sm f k + Pw f k := rfl
  have h5 : Sm f k.succ = Sm f (k + 1) := rfl
  have h6 : Sm f t.succ = Sm f (t + 1) := rfl
  omega

theorem geo_over {f lim : Int} {k : Nat} (hf : 1 ≤ f) (h : lim / f < Pw f k) : lim ≤ Pw f (k + 1) := by
  have := (Int.ediv_lt_iff_lt_mul (by omega)).1 h
  show lim ≤ Pw f k * f
  omega

theorem geo_in {f lim : Int} {k : Nat} (hf : 1 ≤ f) (h : Pw f k ≤ lim / f) : Pw f k * f ≤ lim :=
  (Int.le_ediv_iff_mul_le (by omega)).1 h

/-- the capped sum -/
def cap (lim n : Int) : Int := if lim ≤ n then lim else n

theorem half_cap {f aim : Int} (hf : 0 ≤ f) (ha : 0 < aim) (t : Nat) :
    decide (aim ≤ 100 * (cap (aim / 100 + 1) (R f t) + cap (aim / 100 + 1) (R f (t + 1)))) = half f aim t := by
  have h1 := r_pos f hf t
  have h2 := r_pos f hf (t + 1)
  unfold half cap
  rw [Bool.eq_iff_iff]; simp only [decide_eq_true_eq]
  split <;> split <;> constructor <;> intro h <;> omega

theorem half_nonpos {f aim : Int} (hf : 0 ≤ f) (ha : aim ≤ 0) (t : Nat) : half f aim t = true := by
  have h1 := r_pos f hf t
  have h2 := r_pos f hf (t + 1)
  exact half_of (by omega)

theorem tdiv_bd {a r M : Int} (hr : 1 ≤ r) (h1 : -M ≤ a) (h2 : a ≤ M) : -M ≤ a.tdiv r ∧ a.tdiv r ≤ M := by
  by_cases ha : 0 ≤ a
  · have e : a.tdiv r = a / r := Int.tdiv_eq_ediv_of_nonneg ha
    have h3 := Int.ediv_le_self r ha
    have h4 := Int.ediv_nonneg (a := a) (b := r) ha (by omega)
    omega
  · have e : a.tdiv r = -((-a).tdiv r) := by rw [Int.neg_tdiv]; omega
    have e2 : (-a).tdiv r = (-a) / r := Int.tdiv_eq_ediv_of_nonneg (by omega)
    have h3 := Int.ediv_le_self (a := -a) r (by omega)
    have h4 := Int.ediv_nonneg (a := -a) (b := r) (by omega) (by omega)
    omega

theorem r_zero (k : Nat) : R 0 k = 1 := by
  cases k with
  | zero => rfl
  | succ k => simp [R]

theorem nobrk1_r {f aim : Int} {k : Nat} (hf : 0 ≤ f) (h : f ≤ (aim.tdiv 100).tdiv (R f k)) : R f k ≤ aim / 100 ∨ R f k = 1 := by
  by_cases h0 : f = 0
  · right; rw [h0]; exact r_zero k
  · left
    have hp := r_pos f hf k
    have h1 : R f k * 1 ≤ R f k * f := Int.mul_le_mul_of_nonneg_left (by omega) (by omega)
    rcases (nobrk1 hf h).2 with h2 | h2
    · omega
    · omega

end Go.Proofs.Qxb6618119a.Ttl
