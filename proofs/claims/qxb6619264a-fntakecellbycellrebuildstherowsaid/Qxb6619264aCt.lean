import Derived.Test.Qxb6619264aMv
namespace Go.Proofs.Qxb6619264a.Cl
open Go.RowKit Go.Proofs.Qxb6619264a.W

/-! ### the last index, and what the map holds at a key -/
theorem lastIx_lt (K : Nat → Int) (x : Int) : ∀ n, -1 ≤ lastIx K x n ∧ lastIx K x n < n
  | 0 => by simp [lastIx]
  | n + 1 => by
    have := lastIx_lt K x n
    simp only [lastIx]; split <;> omega
theorem lastIx_is (K : Nat → Int) (x : Int) : ∀ n i, lastIx K x n = (i : Nat) → i < n ∧ K i = x
  | 0, i, h => by simp only [lastIx] at h; omega
  | n + 1, i, h => by
    simp only [lastIx] at h
    split at h
    · rename_i hk
      have : n = i := by omega
      subst this; exact ⟨Nat.lt_succ_self _, hk⟩
    · have := lastIx_is K x n i h
      exact ⟨by omega, this.2⟩
theorem lastIx_ex (K : Nat → Int) (x : Int) : ∀ n j, j < n → K j = x → ∃ i : Nat, lastIx K x n = i
  | 0, j, h, _ => by omega
  | n + 1, j, h, hj => by
    simp only [lastIx]
    by_cases e : K n = x
    · exact ⟨n, by rw [if_pos e]⟩
    · rw [if_neg e]
      exact lastIx_ex K x n j (by
        by_cases e2 : j = n
        · subst e2; exact absurd hj e
        · omega) hj
theorem lastV_at (K : Nat → Int) (V : Nat → Value) (x : Int) : ∀ n i, lastIx K x n = (i : Nat) → lastV K V n x = some (V i)
  | 0, i, h => by simp only [lastIx] at h; omega
  | n + 1, i, h => by
    simp only [lastIx] at h
    simp only [lastV, upF]
    split at h
    · rename_i hk
      have : n = i := by omega
      subst this; rw [if_pos hk.symm]
    · rename_i hk
      rw [if_neg (fun e => hk e.symm)]
      exact lastV_at K V x n i h
theorem lastV_none (K : Nat → Int) (V : Nat → Value) (x : Int) : ∀ n, lastIx K x n = -1 → lastV K V n x = none
  | 0, _ => rfl
  | n + 1, h => by
    simp only [lastIx] at h
    simp only [lastV, upF]
    split at h
    · omega
    · rename_i hk
      rw [if_neg (fun e => hk e.symm)]
      exact lastV_none K V x n h

/-! ### how many marks are wanted -/
/-- where the mark of index i belongs, if it stands -/
def sel (K : Nat → Int) (n : Nat) (dst : Int → Option Int) (i : Nat) : Option Int := if lastIx K (K i) n = i then dst (K i) else none
def cnt (K : Nat → Int) (n : Nat) (dst : Int → Option Int) : Nat → Nat
  | 0 => 0
  | k + 1 => cnt K n dst k + if (sel K n dst k).isSome then 1 else 0
theorem cnt_le (K : Nat → Int) (n : Nat) (dst : Int → Option Int) : ∀ k, cnt K n dst k ≤ k
  | 0 => Nat.le_refl _
  | k + 1 => by have := cnt_le K n dst k; simp only [cnt]; split <;> omega

def selL (K : Nat → Int) (n : Nat) (dst : Int → Option Int) : Nat → List Int
  | 0 => []
  | k + 1 => (match sel K n dst k with | some y => [y] | none => []) ++ selL K n dst k

theorem selL_len (K : Nat → Int) (n : Nat) (dst : Int → Option Int) : ∀ k, (selL K n dst k).length = cnt K n dst k
  | 0 => rfl
  | k + 1 => by
    simp only [selL, cnt]
    cases h : sel K n dst k <;> simp [selL_len K n dst k] <;> omega
theorem selL_mem (K : Nat → Int) (n : Nat) (dst : Int → Option Int) (y : Int) : ∀ k, y ∈ selL K n dst k ↔ ∃ i, i < k ∧ sel K n dst i = some y
  | 0 => by simp [selL]
  | k + 1 => by
    simp only [selL, List.mem_append, selL_mem K n dst y k]
    constructor
    · rintro (h | ⟨i, hi, h⟩)
      · cases hs : sel K n dst k with
        | none => rw [hs] at h; simp at h
        | some z => rw [hs] at h; simp at h; exact ⟨k, Nat.lt_succ_self _, by rw [hs, h]⟩
      · exact ⟨i, by omega, h⟩
    · rintro ⟨i, hi, h⟩
      by_cases e : i = k
      · subst e; left; rw [h]; simp
      · exact .inr ⟨i, by omega, h⟩
theorem selL_nodup (K : Nat → Int) (n : Nat) (dst src : Int → Option Int) (hds : ∀ x y, dst x = some y → src y = some x) : ∀ k, (selL K n dst k).Nodup
  | 0 => by simp [selL]
  | k + 1 => by
    simp only [selL]
    cases hs : sel K n dst k with
    | none => simpa using selL_nodup K n dst src hds k
    | some y =>
      simp only [List.singleton_append, List.nodup_cons]
      refine ⟨fun hm => ?_, selL_nodup K n dst src hds k⟩
      obtain ⟨i, hi, h⟩ := (selL_mem K n dst y k).1 hm
      unfold sel at hs h
      split at hs
      · rename_i e1
        split at h
        · rename_i e2
          have a1 := hds _ _ hs
          have a2 := hds _ _ h
          rw [a1] at a2
          simp at a2
          rw [a2] at e1
          omega
        · cases h
      · cases hs

theorem marks_count {w : World} {b m : Nat} {D : DataW Value} (hw : MapIs w b m D) (K : Nat → Int) (V : Nat → Value) (n : Nat) (src dst : Int → Option Int) (hds : ∀ x y, dst x = some y ↔ src y = some x)
    (h : Tie D (fun y => (src y).bind (lastV K V n))) : Maps.size D = cnt K n dst n := by
  rw [← selL_len]
  refine Tie.size hw h _ (selL_nodup K n dst src (fun x y => (hds x y).1) n) (fun y => ?_)
  rw [selL_mem]
  constructor
  · rintro ⟨i, hi, hs⟩
    unfold sel at hs
    split at hs
    · rename_i e
      have h1 := (hds _ _).1 hs
      simp only [h1, Option.bind_some, lastV_at K V (K i) n i e, Option.isSome_some]
    · cases hs
  · intro hy
    cases hs : src y with
    | none => simp [hs] at hy
    | some x =>
      simp only [hs, Option.bind_some] at hy
      have hb := lastIx_lt K x n
      by_cases e : lastIx K x n = -1
      · rw [lastV_none K V x n e] at hy; cases hy
      · obtain ⟨i, hi⟩ : ∃ i : Nat, lastIx K x n = i := ⟨(lastIx K x n).toNat, by omega⟩
        obtain ⟨h1, h2⟩ := lastIx_is K x n i hi
        refine ⟨i, h1, ?_⟩
        unfold sel
        rw [h2, if_pos hi]
        exact (hds _ _).2 hs

/-! ### a move's target -/
def dstK (f t c : Nat) (x : Int) : Option Int := if (f : Int) ≤ x ∧ x < f + c then some (x - f + t) else if (t : Int) ≤ x ∧ x < t + c then none else some x
theorem dst_src (f t c : Nat) (x y : Int) : dstK f t c x = some y ↔ srcK f t c y = some x := by
  unfold dstK srcK
  constructor
  · intro h
    split at h
    · simp at h; rw [if_pos ⟨by omega, by omega⟩]; congr 1; omega
    · split at h
      · cases h
      · simp at h; subst h; rw [if_neg (by assumption), if_neg (by assumption)]
  · intro h
    split at h
    · simp at h; rw [if_pos ⟨by omega, by omega⟩]; congr 1; omega
    · split at h
      · cases h
      · simp at h; subst h; rw [if_neg (by assumption), if_neg (by assumption)]
theorem mvM_bind (F : Int → Option Value) (f t c : Nat) (y : Int) : mvM F f t c y = (srcK f t c y).bind F := by
  unfold mvM; cases srcK f t c y <;> rfl

end Go.Proofs.Qxb6619264a.Cl
