import Derived.Test.Qxb6619264aMp
import Derived.Test.Qxb6619264aCp
namespace Go.Proofs.Qxb6619264a.Cl
open Go.RowKit Go.Proofs.Qxb6619264a.W

/-! ### what a move makes of the cells -/
def mvC (C : Nat → Int) (f t c : Nat) (i : Nat) : Int := if t ≤ i ∧ i < t + c then C (i - t + f) else if f ≤ i ∧ i < f + c then 0 else C i

/-! ### what a move makes of the marks -/
/-- whence the mark at y comes -/
def srcK (f t c : Nat) (y : Int) : Option Int := if (t : Int) ≤ y ∧ y < t + c then some (y - t + f) else if (f : Int) ≤ y ∧ y < f + c then none else some y
/-- .. of those keys alone that are no longer to come -/
def mvL (F : Int → Option Value) (left : Lit → Bool) (f t c : Nat) (y : Int) : Option Value :=
  match srcK f t c y with
  | some x => if left (.int .i64 x) = true then none else F x
  | none => none
def mvM (F : Int → Option Value) (f t c : Nat) (y : Int) : Option Value :=
  match srcK f t c y with
  | some x => F x
  | none => none

theorem Tie.congr {D : DataW Value} {F G : Int → Option Value} (h : Tie D F) (e : ∀ x, F x = G x) : Tie D G := by
  have : F = G := funext e
  rw [← this]; exact h

theorem same_ints (x y : Int) : (Lit.int .i64 x).sameKey (.int .i64 y) = decide (x = y) := by
  rw [Bool.eq_iff_iff, WideAt.sameKey_iff (isKey y)]; simp

theorem mvL_start {D : DataW Value} {F : Int → Option Value} (h : Tie D F) (f t c : Nat) : ∀ y, mvL F (Maps.has D) f t c y = none := by
  intro y
  unfold mvL
  split
  · rename_i x _
    rw [h.has]
    cases hF : F x <;> simp
  · rfl

theorem mvL_end (F : Int → Option Value) {left : Lit → Bool} (h : ∀ l, left l = false) (f t c : Nat) : ∀ y, mvL F left f t c y = mvM F f t c y := by
  intro y
  unfold mvL mvM
  split
  · rw [h]; simp
  · rfl

theorem src_dest1 {f t c : Nat} {x : Int} (h1 : (f : Int) ≤ x) (h2 : x < (f : Int) + c) : srcK f t c (x - f + t) = some x := by
  unfold srcK; rw [if_pos ⟨by omega, by omega⟩]; congr 1; omega
theorem src_dest2 {f t c : Nat} {x : Int} (h1 : ¬ ((f : Int) ≤ x ∧ x < (f : Int) + c)) (h2 : x < t ∨ (t : Int) + c ≤ x) : srcK f t c x = some x := by
  unfold srcK; rw [if_neg (by omega), if_neg h1]
theorem src_inj {f t c : Nat} {x y y' : Int} (h : srcK f t c y = some x) (h' : srcK f t c y' = some x) : y = y' := by
  unfold srcK at h h'
  split at h <;> split at h' <;> (try split at h) <;> (try split at h') <;> simp_all <;> omega
theorem src_none {f t c : Nat} {x : Int} (h1 : ¬ ((f : Int) ≤ x ∧ x < (f : Int) + c)) (h2 : ¬ (x < t ∨ (t : Int) + c ≤ x)) (y : Int) : srcK f t c y ≠ some x := by
  intro h
  unfold srcK at h
  split at h
  · simp at h; omega
  · split at h
    · cases h
    · simp at h; omega

/-- a key has come and was laid where it belongs -/
theorem mvL_put {F : Int → Option Value} {left : Lit → Bool} {f t c : Nat} {x y : Int} {v : Value} (hs : srcK f t c y = some x) (hF : F x = some v) :
    ∀ z, upF (mvL F left f t c) y v z = mvL F (fun l => left l && !l.sameKey (.int .i64 x)) f t c z := by
  intro z
  unfold upF
  by_cases e : z = y
  · subst e
    rw [if_pos rfl]
    unfold mvL
    rw [hs]
    simp [same_ints, hF]
  · rw [if_neg e]
    unfold mvL
    cases hz : srcK f t c z with
    | none => rfl
    | some x' =>
      have hne : x' ≠ x := fun e' => e (src_inj (e' ▸ hz) hs)
      simp [same_ints, hne]

/-- a key has come and was dropped -/
theorem mvL_drop {F : Int → Option Value} {left : Lit → Bool} {f t c : Nat} {x : Int} (hs : ∀ y, srcK f t c y ≠ some x) :
    ∀ z, mvL F left f t c z = mvL F (fun l => left l && !l.sameKey (.int .i64 x)) f t c z := by
  intro z
  unfold mvL
  cases hz : srcK f t c z with
  | none => rfl
  | some x' =>
    have hne : x' ≠ x := fun e' => hs z (e' ▸ hz)
    simp [same_ints, hne]

theorem Tie.val {D : DataW Value} {F : Int → Option Value} (h : Tie D F) {x : Int} {v : Value} {y : DataW Value × List MemPlace} (hv : tokR v = some y) (hat : ∀ zd, D.atKey (.int .i64 x) zd = y.1) : F x = some v := by
  simp only [tokR, Option.some.injEq] at hv
  subst hv
  have h1 := hat (.lit (.bool true))
  rw [h.atK] at h1
  cases hF : F x with
  | none => rw [hF] at h1; cases h1
  | some u => rw [hF] at h1; simp at h1; rw [h1]

theorem MapIs.size_le {w : World} {b n : Nat} {D : DataW Value} (h : MapIs w b n D) : Maps.size D ≤ n := by
  obtain ⟨es, clock, hb, F, hs, rfl⟩ := h
  simp only [Maps.size, length_sorted, List.length_map]
  simpa using hs

/-- the step of a range over such a map -/
theorem wpList_nx (w : World) {ops : Array Oper} {rest : List Oper} {o : Oper} {a : Act} {Q : Exit → Act → World → Prop} (hg : o.guard = none) (it : Operand) (hop : o.op = Op.next it false)
    (b r n : Nat) (D : DataW Value) (F : Int → Option Value) (left : Lit → Bool) (cnt : Nat) (hit : a.eval it = .pointer (some ⟨r, 0, none⟩)) (h : w.ranges Try.prog 3 tokR b r n D left cnt) (hT : Tie D F)
    (hDone : cnt = 0 → (∀ kl, left kl = false) → wpList Try.prog ops Q rest (a.put o.dst (.tuple #[.bool false])) w)
    (hMore : ∀ (x : Int) (v : Value) (w' : World) (cnt' : Nat), (Lit.int .i64 x).wf = true → F x = some v → w'.ranges Try.prog 3 tokR b r n D (fun z => left z && !z.sameKey (.int .i64 x)) cnt' → cnt' < cnt →
      w.grownBy w' (some r) → w'.heap.size = w.heap.size → (Instr.entry (.pointer (some ⟨r, 0, none⟩))).run Try.prog w' = .ok (.tuple #[.int .i64 x, v]) w' → wpList Try.prog ops Q rest (a.put o.dst (.tuple #[.bool true, .int .i64 x, v])) w') :
    wpList Try.prog ops Q (o :: rest) a w :=
  wpList_next_ranges w hg it hop 3 law3 tokR (Value.int .i64) (fun v : Value => v) (fun key kl hkey => by obtain ⟨x, rfl, _⟩ := Maps.keyOf_int_inv Try.underlying3 hkey; exact ⟨x, rfl⟩) (fun v y _ => ⟨v, rfl⟩)
    b r n D left cnt hit h hDone (fun x v kl y w' cnt' hkey _ hv hat hrg hlt hgr hsz hen => by
      obtain ⟨x', ex, rfl, hwx⟩ := Maps.keyOf_int_inv Try.underlying3 hkey
      cases ex
      exact hMore x v w' cnt' hwx (hT.val hv hat) hrg hlt hgr hsz hen)

end Go.Proofs.Qxb6619264a.Cl
