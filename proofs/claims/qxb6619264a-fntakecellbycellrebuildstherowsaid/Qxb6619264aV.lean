import Derived.Test.Qxb6619264aW
/- Slices that came in, slices of the call's own, and what a step leaves alone: for every program. -/
namespace Go.Proofs.Qxb6619264a.W
open Go.RowKit

/-- the blocks outside S are as they were -/
structure Fr (S : Nat → Prop) (w w' : World) : Prop where
  os : w'.os = w.os
  tape : w'.tape = w.tape
  output : w'.output = w.output
  size : w.heap.size ≤ w'.heap.size
  block : ∀ k, k < w.heap.size → ¬ S k → w'.heap[k]? = w.heap[k]?

theorem Fr.refl (S : Nat → Prop) (w : World) : Fr S w w := ⟨rfl, rfl, rfl, Nat.le_refl _, fun _ _ _ => rfl⟩
theorem Fr.trans {S : Nat → Prop} {a b c : World} (h : Fr S a b) (k : Fr S b c) : Fr S a c :=
  ⟨k.os.trans h.os, k.tape.trans h.tape, k.output.trans h.output, Nat.le_trans h.size k.size, fun i hi hs => (k.block i (Nat.lt_of_lt_of_le hi h.size) hs).trans (h.block i hi hs)⟩
theorem Fr.mono {S T : Nat → Prop} {a b : World} (h : Fr S a b) (hst : ∀ k, k < a.heap.size → S k → T k) : Fr T a b :=
  ⟨h.os, h.tape, h.output, h.size, fun i hi hs => h.block i hi (fun x => hs (hst i hi x))⟩
theorem Fr.ofBelow {S : Nat → Prop} {a b : World} (h : Below a.heap.size a b) : Fr S a b :=
  ⟨h.os, h.tape, h.output, h.size, fun i hi _ => h.block i hi⟩
theorem Fr.below {S : Nat → Prop} {a b : World} {B : Nat} (h : Fr S a b) (hB : B ≤ a.heap.size) (hs : ∀ k, k < B → ¬ S k) : Below B a b :=
  ⟨h.os, h.tape, h.output, h.size, fun i hi => h.block i (by omega) (hs i hi)⟩
theorem Fr.ofOnly {g : Nat} {a b : World} (h : Only g a b) : Fr (fun k => k = g) a b :=
  ⟨h.os, h.tape, h.output, Nat.le_of_eq h.size.symm, fun i _ hs => h.block i hs⟩
theorem Fr.drew {S : Nat → Prop} {a b : World} (h : Fr S a b) : Fr S a b.drew := ⟨h.os, h.tape, h.output, h.size, h.block⟩
theorem Fr.alloc {S : Nat → Prop} {a b : World} (h : Fr S a b) (o : Obj) : Fr S a (b.alloc o) :=
  h.trans ⟨rfl, rfl, rfl, by simp, fun k hk _ => Below.heap_alloc _ _ _ hk⟩
theorem Fr.setCell {S : Nat → Prop} {a b : World} (h : Fr S a b) {p : Addr} (hp : S p.block) (u : Value) : Fr S a (b.setCell p u) :=
  h.trans ⟨rfl, rfl, rfl, by simp [World.setCell], fun k _ hs => Below.heap_setCell _ _ _ _ (fun e => hs (e ▸ hp))⟩
theorem Fr.grown {S : Nat → Prop} {a b c : World} {row : Option Nat} (h : Fr S a b) (hg : b.grownBy c row) (hr : ∀ k, row = some k → S k) : Fr S a c :=
  h.trans ⟨hg.os, hg.tape, hg.output, hg.size, fun k hk hs => hg.block k hk (fun e => hs (hr k e.symm))⟩
theorem Fr.blk {S : Nat → Prop} {a b : World} {g : Nat} {e : TypeId} {cs : List Value} (h : Fr S a b) (hg : ¬ S g) (hb : Blk a g e cs) : Blk b g e cs := by
  unfold Blk; rw [h.block g hb.lt hg]; exact hb
theorem Fr.cell {S : Nat → Prop} {a b : World} (h : Fr S a b) {p : Addr} (hp : p.block < a.heap.size) (hs : ¬ S p.block) : b.cell? p = a.cell? p :=
  World.cell?_of_block (w := a) (h.block p.block hp hs)

/-- a slice that can be read: n elements of one cell, the i-th is F i -/
def In (w : World) (a : Option Addr) (n : Nat) (F : Nat → Value) : Prop :=
  n = 0 ∨ ∃ b o, a = some ⟨b, o, none⟩ ∧ b < w.heap.size ∧ ∀ i, i < n → w.cell? ⟨b, o + i, none⟩ = some (F i)

theorem In.fr {S : Nat → Prop} {w w' : World} {a : Option Addr} {n : Nat} {F : Nat → Value} (h : In w a n F) (hf : Fr S w w') (hs : ∀ b o, a = some ⟨b, o, none⟩ → ¬ S b) : In w' a n F := by
  rcases h with h | ⟨b, o, rfl, hb, hc⟩
  · exact .inl h
  · exact .inr ⟨b, o, rfl, Nat.lt_of_lt_of_le hb hf.size, fun i hi => (hf.cell (p := ⟨b, o + i, none⟩) hb (hs b o rfl)).trans (hc i hi)⟩

theorem In.below {w w' : World} {a : Option Addr} {n : Nat} {F : Nat → Value} (h : In w a n F) (hf : Below w.heap.size w w') : In w' a n F :=
  h.fr (S := fun _ => False) (Fr.ofBelow hf) (fun _ _ _ h => h)

/-- a slice of the call's own: nil, or a whole block among [B, T) -/
def Own (w : World) (B T : Nat) (e : TypeId) (v : Value) (nil : Bool) (n : Nat) (F : Nat → Value) : Prop :=
  (nil = true ∧ n = 0 ∧ v = .slice none 0 0) ∨ (nil = false ∧ ∃ g, B ≤ g ∧ g < T ∧ v = .slice (some ⟨g, 0, none⟩) n n ∧ Blk w g e (rowOf F n))

theorem Own.fr {S : Nat → Prop} {w w' : World} {B T : Nat} {e : TypeId} {v : Value} {nil : Bool} {n : Nat} {F : Nat → Value} (h : Own w B T e v nil n F) (hf : Fr S w w') (hs : ∀ k, B ≤ k → k < T → ¬ S k) : Own w' B T e v nil n F := by
  rcases h with h | ⟨h1, g, h2, h3, h4, h5⟩
  · exact .inl h
  · exact .inr ⟨h1, g, h2, h3, h4, hf.blk (hs g h2 h3) h5⟩
theorem Own.mono {w : World} {B T B' T' : Nat} {e : TypeId} {v : Value} {nil : Bool} {n : Nat} {F : Nat → Value} (h : Own w B T e v nil n F) (hB : B' ≤ B) (hT : T ≤ T') : Own w B' T' e v nil n F := by
  rcases h with h | ⟨h1, g, h2, h3, h4, h5⟩
  · exact .inl h
  · exact .inr ⟨h1, g, by omega, by omega, h4, h5⟩
theorem Own.below {w w' : World} {B T : Nat} {e : TypeId} {v : Value} {nil : Bool} {n : Nat} {F : Nat → Value} (h : Own w B T e v nil n F) (hf : Below w.heap.size w w') : Own w' B T e v nil n F :=
  h.fr (S := fun _ => False) (Fr.ofBelow hf) (fun _ _ _ h => h)

/-- .. can be read -/
theorem Own.isIn {w : World} {B T : Nat} {e : TypeId} {v : Value} {nil : Bool} {n : Nat} {F : Nat → Value} (h : Own w B T e v nil n F) : ∃ a, v = .slice a n n ∧ nil = a.isNone ∧ In w a n F := by
  rcases h with ⟨h1, h2, h3⟩ | ⟨h1, g, h2, h3, h4, h5⟩
  · subst h2; exact ⟨none, h3, h1, .inl rfl⟩
  · exact ⟨_, h4, h1, .inr ⟨g, 0, rfl, h5.lt, fun i hi => by rw [Nat.zero_add, h5.cell, rowOf_get F hi]⟩⟩

theorem rowOf_set {F G : Nat → Value} {n k : Nat} {v : Value} (h : ∀ i, i < n → i ≠ k → G i = F i) (hk : k < n → G k = v) : (rowOf F n).set k v = rowOf G n := by
  apply List.ext_getElem?
  intro i
  by_cases hi : i < n
  · by_cases e : k = i
    · subst e
      rw [List.getElem?_set_self (by rw [rowOf_len]; exact hi), rowOf_get G hi, hk hi]
    · rw [List.getElem?_set_ne e, rowOf_get F hi, rowOf_get G hi, h i hi (Ne.symm e)]
  · rw [List.getElem?_eq_none (by simp [rowOf_len]; omega), List.getElem?_eq_none (by simp [rowOf_len]; omega)]

theorem rowOf_congr {F G : Nat → Value} {n : Nat} (h : ∀ i, i < n → F i = G i) : rowOf F n = rowOf G n := by
  unfold rowOf; exact List.map_congr_left fun i hi => h i (List.mem_range.1 hi)

theorem toList_made_rowOf (z : Value) (n : Nat) (h : z.cells = #[z]) : (madeCells z.cells (n * 1)).toList = rowOf (fun _ => z) n := by
  rw [h, toList_made1]
  apply List.ext_getElem
  · simp [rowOf]
  · intro i h1 h2; simp [rowOf]

end Go.Proofs.Qxb6619264a.W
