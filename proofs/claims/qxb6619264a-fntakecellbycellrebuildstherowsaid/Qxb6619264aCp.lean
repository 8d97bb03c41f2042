import Derived.Test.Qxb6619264aV
/- 'copy' and 'clear' inside one row of the call's own: for every program. -/
namespace Go.Proofs.Qxb6619264a.W
open Go.RowKit

/-- m cells from s on, laid from o on -/
def cpF (F : Nat → Value) (o s m i : Nat) : Value := if o ≤ i ∧ i < o + m then F (i - o + s) else F i
/-- m cells from o on, blank -/
def clF (F : Nat → Value) (z : Value) (o m i : Nat) : Value := if o ≤ i ∧ i < o + m then z else F i

theorem splice_rowOf (F G : Nat → Value) (o m n : Nat) (cs : List Value) (hl : cs.length = m) (hom : o + m ≤ n) (hcs : ∀ j, j < m → cs[j]? = some (G (o + j))) (ho : ∀ i, i < n → (i < o ∨ o + m ≤ i) → G i = F i) :
    (rowOf F n).take o ++ cs ++ (rowOf F n).drop (o + cs.length) = rowOf G n := by
  have hlen : (rowOf F n).length = n := rowOf_len F n
  apply List.ext_getElem?
  intro i
  rw [hl]
  by_cases hi : i < n
  · rw [rowOf_get G hi]
    by_cases h1 : i < o
    · rw [List.append_assoc, List.getElem?_append_left (by simp; omega), List.getElem?_take_of_lt h1, rowOf_get F hi, ho i hi (.inl h1)]
    · by_cases h2 : i < o + m
      · rw [List.getElem?_append_left (by simp [hlen]; omega), List.getElem?_append_right (by simp [hlen]; omega)]
        have e : i - ((rowOf F n).take o).length = i - o := by simp [hlen]; omega
        rw [e, hcs (i - o) (by omega)]
        congr 2; omega
      · rw [List.getElem?_append_right (by simp [hlen]; omega), List.getElem?_drop]
        have e : o + m + (i - ((rowOf F n).take o ++ cs).length) = i := by simp [hlen]; omega
        rw [e, rowOf_get F hi, ho i hi (.inr (by omega))]
  · rw [List.getElem?_eq_none (by simp [hlen]; omega), List.getElem?_eq_none (by simp [rowOf_len]; omega)]

theorem run_cpRow {P : Program} (w : World) (t e : TypeId) (F : Nat → Value) (n g o s m dc sc : Nat) (ht : P.underlying t = some (.slice e)) (hs : (P.info? e).map (·.size) = some 1) (h1 : ∀ i, (F i).oneCell' = true)
    (hb : Blk w g e (rowOf F n)) (ho : o + m ≤ n) (hsn : s + m ≤ n) :
    ∃ w', (∀ ty, (Builtin.copy_ #[t, t] ty #[.slice (some ⟨g, o, none⟩) m dc, .slice (some ⟨g, s, none⟩) m sc]).run P w = .ok (goInt m) w') ∧ Blk w' g e (rowOf (cpF F o s m) n) ∧ Only g w w' := by
  have hlen : (rowOf (fun j => F (s + j)) m).length = m := rowOf_len _ _
  have hr := fun ty => run_copy_row P w t t ty e g o m dc ⟨g, s, none⟩ m sc (rowOf F n).toArray e (rowOf (fun j => F (s + j)) m) ht hs hb (by rw [hlen]; exact (Nat.min_self m).symm)
    (fun j v hj => by
      have hjm : j < m := by have := (List.getElem?_eq_some_iff.1 hj).1; rwa [hlen] at this
      rw [rowOf_get _ hjm] at hj
      have e : (⟨g, s, none⟩ : Addr).add j = ⟨g, s + j, none⟩ := by unfold Addr.add; split <;> simp_all
      rw [e, hb.cell, rowOf_get F (by omega)]; exact hj)
    (by simp [rowOf_len]; omega) (rowOf_one _ _ (fun i => h1 _))
  simp only [hlen] at hr
  refine ⟨_, hr, ?_, Only.setRow _ _ _⟩
  have h := setRow_heap w g _ ((rowOf F n).take o ++ rowOf (fun j => F (s + j)) m ++ (rowOf F n).drop (o + m)).toArray e _ hb
  have e2 := splice_rowOf F (cpF F o s m) o m n (rowOf (fun j => F (s + j)) m) hlen ho
    (fun j hj => by rw [rowOf_get _ hj]; simp only [cpF]; rw [if_pos ⟨by omega, by omega⟩]; congr 2; omega)
    (fun i hi h => by simp only [cpF]; rw [if_neg (by omega)])
  rw [hlen] at e2
  rw [e2] at h
  simpa [Blk, e2] using h

theorem run_clRow0 {P : Program} (w : World) (t e : TypeId) (a : Option Addr) (c : Nat) (ht : P.underlying t = some (.slice e)) (ty : TypeId) :
    (Builtin.clear_ #[t] ty #[.slice a 0 c]).run P w = .ok (.tuple #[]) w := by
  cases a <;> simp [Builtin.clear_, run_underlying ht]

theorem run_clRow {P : Program} (w : World) (t e : TypeId) (F : Nat → Value) (z : Value) (n g o m c : Nat) (ht : P.underlying t = some (.slice e)) (hv : ∀ w, (zeroValue e).run P w = .ok z w) (hz : z.cells = #[z]) (h1 : z.oneCell' = true)
    (hb : Blk w g e (rowOf F n)) (ho : o + m ≤ n) :
    ∃ w', (∀ ty, (Builtin.clear_ #[t] ty #[.slice (some ⟨g, o, none⟩) m c]).run P w = .ok (.tuple #[]) w') ∧ Blk w' g e (rowOf (clF F z o m) n) ∧ Only g w w' := by
  by_cases hm : m = 0
  · subst hm
    refine ⟨w, fun ty => run_clRow0 w t e _ c ht ty, ?_, Only.refl _ _⟩
    rw [rowOf_congr (F := clF F z o 0) (G := F) (fun i _ => by simp only [clF]; rw [if_neg (by omega)])]
    exact hb
  · have hzc : (Builtin.zeroCells z.cells m).toList = List.replicate m z := by
      rw [hz]
      simp [Builtin.zeroCells]
      apply List.ext_getElem
      · simp
      · intro i h1 h2
        simp [Nat.mod_one]
    have hst := run_storeCells_at P g o e (List.replicate m z) 0 (rowOf F n).toArray w hb (by simp [rowOf_len]; omega) (by intro v hv'; rw [List.eq_of_mem_replicate hv']; exact h1)
    simp only [Nat.add_zero, List.length_replicate] at hst
    obtain ⟨k, rfl⟩ : ∃ k, m = k + 1 := ⟨m - 1, by omega⟩
    refine ⟨_, fun ty => by simp only [Builtin.clear_]; simp [run_underlying ht, hv, hzc, hst]; rfl, ?_, Only.setRow _ _ _⟩
    have e2 := splice_rowOf F (clF F z o (k + 1)) o (k + 1) n (List.replicate (k + 1) z) (by simp) ho
      (fun j hj => by rw [List.getElem?_replicate, if_pos hj]; simp only [clF]; rw [if_pos ⟨by omega, by omega⟩])
      (fun i hi h => by simp only [clF]; rw [if_neg (by omega)])
    have h := setRow_heap w g _ ((rowOf F n).take o ++ List.replicate (k + 1) z ++ (rowOf F n).drop (o + (List.replicate (k + 1) z).length)).toArray e _ hb
    rw [e2] at h
    simp only [List.length_replicate, List.append_assoc] at e2
    simpa [Blk, e2] using h

end Go.Proofs.Qxb6619264a.W
