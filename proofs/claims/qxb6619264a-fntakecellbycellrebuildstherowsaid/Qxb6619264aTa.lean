import Derived.Test.Qxb6619264aMv
import Derived.Test.Qxb6619264aCm
import Derived.Deep.AppendLies
namespace Go.Proofs.Qxb6619264a.Cl
open Go.RowKit Go.Proofs.Qxb6619264a.W

/-- a row of runes of the call's own, with room behind it -/
def Row (w : World) (T g cap n : Nat) (F : Nat → Value) : Prop :=
  T ≤ g ∧ n ≤ cap ∧ cap ≤ maxLen ∧ ∃ cur : List Value, Blk w g 21 cur ∧ cur.length = cap ∧ cur.take n = rowOf F n

theorem Row.lt {w : World} {T g cap n : Nat} {F : Nat → Value} (h : Row w T g cap n F) : g < w.heap.size := by
  obtain ⟨_, _, _, cur, hb, _⟩ := h; exact hb.lt
theorem Row.cell {w : World} {T g cap n : Nat} {F : Nat → Value} (h : Row w T g cap n F) {j : Nat} (hj : j < n) : w.cell? ⟨g, j, none⟩ = some (F j) := by
  obtain ⟨_, _, _, cur, hb, hl, ht⟩ := h
  rw [hb.cell]
  have := rowOf_get F hj
  rw [← ht, List.getElem?_take_of_lt hj] at this
  exact this
theorem Row.frozen {w : World} {T g cap n : Nat} {F : Nat → Value} (h : Row w T g cap n F) (j : Nat) : w.frozen? ⟨g, j, none⟩ = false := by
  obtain ⟨_, _, _, cur, hb, _⟩ := h; exact hb.frozen j
theorem Row.set {w : World} {T g cap n : Nat} {F G : Nat → Value} (h : Row w T g cap n F) {k : Nat} {v : Value} (hG : ∀ i, i < n → i ≠ k → G i = F i) (hk : k < n → G k = v) : Row (w.setCell ⟨g, k, none⟩ v) T g cap n G := by
  obtain ⟨h1, h2, h3, cur, hb, hl, ht⟩ := h
  refine ⟨h1, h2, h3, cur.set k v, hb.set k v, by simp [hl], ?_⟩
  rw [← rowOf_set hG hk, ← ht, List.take_set]
theorem Row.fr {S : Nat → Prop} {w w' : World} {T g cap n : Nat} {F : Nat → Value} (h : Row w T g cap n F) (hf : Fr S w w') (hs : ¬ S g) : Row w' T g cap n F := by
  obtain ⟨h1, h2, h3, cur, hb, hl, ht⟩ := h
  exact ⟨h1, h2, h3, cur, hf.blk hs hb, hl, ht⟩
theorem Row.ofBlk {w : World} {T g n : Nat} {F : Nat → Value} (h1 : T ≤ g) (hm : n ≤ maxLen) (hb : Blk w g 21 (rowOf F n)) : Row w T g n n F :=
  ⟨h1, Nat.le_refl _, hm, _, hb, rowOf_len F n, List.take_of_length_le (by rw [rowOf_len]; exact Nat.le_refl _)⟩
theorem Row.owns {w : World} {T g cap n : Nat} {F : Nat → Value} (h : Row w T g cap n F) : w.ownsRow T 21 1 (.slice (some ⟨g, 0, none⟩) n cap) n (rowOf F n) := by
  obtain ⟨h1, h2, h3, cur, hb, hl, ht⟩ := h
  exact ⟨by rw [rowOf_len, Nat.mul_one], .inr ⟨g, cap, cur.toArray, rfl, h1, hb, h2, h3, by simp [hl], by simpa using ht⟩⟩
theorem Row.of_owns {w : World} {T g cap n : Nat} {F : Nat → Value} (h : w.ownsRow T 21 1 (.slice (some ⟨g, 0, none⟩) n cap) n (rowOf F n)) : Row w T g cap n F := by
  obtain ⟨_, h | ⟨g', cap', cur, hv, h1, hb, h2, h3, hs, ht⟩⟩ := h
  · cases h.1
  · simp only [Value.slice.injEq, Option.some.injEq, Addr.mk.injEq, true_and, and_true] at hv
    obtain ⟨rfl, rfl⟩ := hv
    refine ⟨h1, h2, h3, cur.toList, ?_, by simpa using hs, by simpa using ht⟩
    unfold Blk
    simpa using hb
theorem rowOf_succ (F : Nat → Value) (n : Nat) : rowOf F (n + 1) = rowOf F n ++ [F n] := by simp [rowOf, List.range_succ]

/-- how many cells the line has -/
def lenAt (w : World) (gl : Nat) : Nat := match w.cell? ⟨gl, 0, none⟩ with | some (.slice _ n _) => n | _ => 0

theorem lenAt_line {w : World} {gl : Nat} {a : Option Addr} {n c : Nat} {vm : Value} {us sz : Int} {wp : Bool} (h : Line w gl (.slice a n c) vm us sz wp) : lenAt w gl = n := by
  unfold lenAt; rw [h.c0]

/-- the blocks that a take may write to -/
def tkS (gl T : Nat) (k : Nat) : Prop := k = gl ∨ T ≤ k

/-- the marks of a line that is being filled -/
def Marks (w : World) (T : Nat) (vm : Value) (m : Nat) (G : Int → Option Value) : Prop :=
  (vm = .map none ∧ ∀ x, G x = none) ∨ (∃ b D, vm = .map (some b) ∧ T ≤ b ∧ MapIs w b m D ∧ Tie D G ∧ ∃ x, (G x).isSome = true)

theorem run_look {w : World} {b n : Nat} {D : DataW Value} {F : Int → Option Value} (hm : MapIs w b n D) (ht : Tie D F) {x : Int} (hx : (Lit.int .i64 x).wf = true) (v : Value) (hF : (F x).getD (.slice none 0 0) = v) :
    (Instr.lookup 52 (.map (some b)) (.int .i64 x) false).run Try.prog w = .ok v w := by
  obtain ⟨u, ps, hrun, hv⟩ := World.ownsMap.lookup hm law3 Try.underlying52 (zero22 w) (show tokR (.slice none 0 0) = some (.held (.slice none 0 0), []) from rfl) (key3 hx)
  have h1 := ht.atK x (.held (.slice none 0 0))
  rw [h1] at hv
  simp only [tokR, Option.some.injEq, Prod.mk.injEq] at hv
  cases hFx : F x with
  | none => rw [hFx] at hv hF; simp at hv hF; rw [hrun, hv.1, ← hF]
  | some y => rw [hFx] at hv hF; simp at hv hF; rw [hrun, hv.1, hF]

theorem run_look_nil (w : World) (x : Int) (hx : (Lit.int .i64 x).wf = true) : (Instr.lookup 52 (.map none) (.int .i64 x) false).run Try.prog w = .ok (.slice none 0 0) w := by
  have h := Maps.look_nil (w := w) false law3 Try.underlying52 (zero22 w) (key3 hx)
  simpa using h

/-- the map of a line's marks, if there is one: apart from the row g -/
def Mk (w : World) (T g : Nat) (vm : Value) (ml : Nat) (Dl : DataW Value) : Prop := vm = .map none ∨ ∃ bl, vm = .map (some bl) ∧ T ≤ bl ∧ bl ≠ g ∧ MapIs w bl ml Dl
theorem Mk.fr {S : Nat → Prop} {w w' : World} {T g g2 : Nat} {vm : Value} {ml : Nat} {Dl : DataW Value} (h : Mk w T g vm ml Dl) (hf : Fr S w w') (hs : ∀ b, T ≤ b → b ≠ g → b < w.heap.size → ¬ S b ∧ b ≠ g2) : Mk w' T g2 vm ml Dl := by
  rcases h with h | ⟨bl, h1, h2, h3, h4⟩
  · exact .inl h
  · have := hs bl h2 h3 (World.ownsMap.lt h4)
    exact .inr ⟨bl, h1, h2, this.2, h4.fr hf this.1⟩

end Go.Proofs.Qxb6619264a.Cl
