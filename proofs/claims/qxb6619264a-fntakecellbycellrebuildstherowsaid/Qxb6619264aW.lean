import Derived.WalkKit
import Derived.Lib.SliceRun
/- Small laws on a world's blocks, for every program. -/
namespace Go.Proofs.Qxb6619264a.W
open Go.RowKit

/-- block g is a row of the cells cs, of type e, nothing in it frozen -/
def Blk (w : World) (g : Nat) (e : TypeId) (cs : List Value) : Prop := w.heap[g]? = some (.cells cs.toArray e (0, 0))

theorem Blk.lt {w : World} {g : Nat} {e : TypeId} {cs : List Value} (h : Blk w g e cs) : g < w.heap.size := (Array.getElem?_eq_some_iff.1 h).1

theorem Blk.cell {w : World} {g : Nat} {e : TypeId} {cs : List Value} (h : Blk w g e cs) (j : Nat) : w.cell? ⟨g, j, none⟩ = cs[j]? := by
  rw [cell_of_row w g j _ e _ h]; simp

theorem Blk.frozen {w : World} {g : Nat} {e : TypeId} {cs : List Value} (h : Blk w g e cs) (j : Nat) : w.frozen? ⟨g, j, none⟩ = false := by
  simp [World.frozen?, show w.heap[g]? = _ from h]

theorem Blk.set {w : World} {g : Nat} {e : TypeId} {cs : List Value} (h : Blk w g e cs) (j : Nat) (v : Value) : Blk (w.setCell ⟨g, j, none⟩ v) g e (cs.set j v) := by
  unfold Blk
  rw [setCell_eq_setRow w g j _ e _ v h, setRow_heap w g _ _ e _ h]
  simp

theorem Blk.other {w : World} {g : Nat} {e : TypeId} {cs : List Value} (h : Blk w g e cs) {a : Addr} (ha : g ≠ a.block) (v : Value) : Blk (w.setCell a v) g e cs := by
  unfold Blk; rw [Below.heap_setCell _ _ _ _ ha]; exact h

theorem Blk.alloc {w : World} {g : Nat} {e : TypeId} {cs : List Value} (h : Blk w g e cs) (o : Obj) : Blk (w.alloc o) g e cs := by
  unfold Blk; rw [Below.heap_alloc _ _ _ h.lt]; exact h

theorem Blk.drew {w : World} {g : Nat} {e : TypeId} {cs : List Value} (h : Blk w g e cs) : Blk w.drew g e cs := h

theorem Blk.new (w : World) (e : TypeId) (cs : List Value) : Blk (w.alloc (.cells cs.toArray e)) w.heap.size e cs := heap_alloc_new w _

theorem Blk.below {w w' : World} {g B : Nat} {e : TypeId} {cs : List Value} (h : Blk w g e cs) (hb : Below B w w') (hg : g < B) : Blk w' g e cs := by
  unfold Blk; rw [hb.block g hg]; exact h

/-- w' is w but for block g (which was there) -/
structure Only (g : Nat) (w w' : World) : Prop where
  os : w'.os = w.os
  tape : w'.tape = w.tape
  output : w'.output = w.output
  size : w'.heap.size = w.heap.size
  block : ∀ k, k ≠ g → w'.heap[k]? = w.heap[k]?

theorem Only.below {g B : Nat} {w w' : World} (h : Only g w w') (hB : B ≤ g) : Below B w w' :=
  ⟨h.os, h.tape, h.output, by rw [h.size]; exact Nat.le_refl _, fun k hk => h.block k (by omega)⟩
theorem Only.blk {g k : Nat} {w w' : World} {e : TypeId} {cs : List Value} (h : Only g w w') (hk : k ≠ g) (hb : Blk w k e cs) : Blk w' k e cs := by
  unfold Blk; rw [h.block k hk]; exact hb
theorem Only.setRow (w : World) (g : Nat) (cs : Array Value) : Only g w (w.setRow g cs) :=
  ⟨rfl, rfl, rfl, by simp, fun k hk => setRow_other w g k cs hk⟩
theorem Only.setCell (w : World) (a : Addr) (v : Value) : Only a.block w (w.setCell a v) :=
  ⟨rfl, rfl, rfl, by simp [World.setCell], fun k hk => Below.heap_setCell _ _ _ _ hk⟩
theorem Only.refl (g : Nat) (w : World) : Only g w w := ⟨rfl, rfl, rfl, rfl, fun _ _ => rfl⟩
theorem Only.trans {g : Nat} {a b c : World} (h : Only g a b) (k : Only g b c) : Only g a c :=
  ⟨k.os.trans h.os, k.tape.trans h.tape, k.output.trans h.output, k.size.trans h.size, fun i hi => (k.block i hi).trans (h.block i hi)⟩

theorem toList_made1 (z : Value) (n : Nat) : (madeCells #[z] (n * 1)).toList = List.replicate n z := by
  apply List.ext_getElem
  · simp [madeCells]
  · intro i h1 h2
    simp [madeCells, Nat.mod_one]

/-- 'make([]T, n)': a new row of n zero elements (size cells each) -/
theorem wpList_mk {P : Program} (w : World) {ops : Array Oper} {rest : List Oper} {o : Oper} {a : Act} {Q : Exit → Act → World → Prop}
    (hg : o.guard = none) (l c : Operand) (t : TypeId) (hop : o.op = Op.makeSlice t l c)
    (e : TypeId) (z : Value) (size bytes : Nat) (h1 : P.underlying t = some (.slice e)) (h2 : (P.info? e).map (fun i => (i.zero, i.size, i.bytes)) = some (some z, size, bytes))
    (kl kc : IntKind) (L C : Int) (n : Nat) (hl : a.eval l = .int kl L) (hc : a.eval c = .int kc C) (hL : L = (n : Int)) (hC : C = (n : Int)) (b2 : bytes * n ≤ 281474976710656) (b3 : n ≤ maxLen)
    (hK : ∀ w', Blk w' w.heap.size e (madeCells z.cells (n * size)).toList → Below w.heap.size w w' → w'.heap.size = w.heap.size + 1 → wpList P ops Q rest (a.put o.dst (.slice (some ⟨w.heap.size, 0, none⟩) n n)) w') :
    wpList P ops Q (o :: rest) a w := by
  refine wpList_plain hg fun K hK' => ?_
  obtain ⟨i, hi, hz0, hz1, hz2⟩ := info_parts h2
  subst hL
  subst hC
  have hby : (i.bytes : Int) * (n : Int) ≤ 281474976710656 := by
    rw [hz2]
    have h : ((bytes * n : Nat) : Int) ≤ 281474976710656 := by omega
    rwa [Int.natCast_mul] at h
  have hrun := run_make (P := P) w t e i z h1 hi hz0 kl kc (n : Int) (n : Int) (by omega) (Int.le_refl _) hby (by simp [maxLen] at b3; omega)
  simp only [Int.toNat_natCast, hz1] at hrun
  unfold Oper.wp
  simp [execOp, hop, hl, hc, hrun, Result.andThen]
  refine hK' _ _ (hK _ ?_ ((Below.refl _ _).alloc (Nat.le_refl _) _) (by simp))
  have := Blk.new w e (madeCells z.cells (n * size)).toList
  simpa using this

/-- 'copy(dst, src)', dst a whole row of the call's own of n one-cell elements, src of as many -/
theorem wpList_cp {P : Program} (w : World) {ops : Array Oper} {rest : List Oper} {o : Oper} {a : Act} {Q : Exit → Act → World → Prop}
    (hg : o.guard = none) (d s : Operand) (t : TypeId) (hop : o.op = Op.call { callee := Callee.builtin Builtin.copy, args := #[d, s], argTypes := #[t, t] })
    (e : TypeId) (h1 : P.underlying t = some (.slice e)) (h2 : (P.info? e).map (·.size) = some 1)
    (g n dc : Nat) (x : Addr) (sc : Nat) (old cs : List Value) (hd : a.eval d = .slice (some ⟨g, 0, none⟩) n dc) (hs : a.eval s = .slice (some x) n sc)
    (hb : Blk w g e old) (hold : old.length = n) (hcs : cs.length = n) (hsrc : ∀ j v, cs[j]? = some v → w.cell? (x.add j) = some v) (h3 : ∀ v ∈ cs, v.oneCell' = true)
    (hK : ∀ w', Blk w' g e cs → Only g w w' → wpList P ops Q rest (a.put o.dst (goInt n)) w') :
    wpList P ops Q (o :: rest) a w := by
  refine wpList_plain hg fun K hK' => ?_
  have hrun := run_copy_row P w t t o.type e g 0 n dc x n sc old.toArray e cs h1 h2 hb (by rw [hcs]; exact (Nat.min_self n).symm) hsrc (by simp; omega) h3
  simp only [List.take_zero, List.nil_append, hcs] at hrun
  unfold Oper.wp
  simp [execOp, hop, hd, hs, resolve, invoke, builtin, hrun, Result.andThen]
  refine hK' _ _ (hK _ ?_ ?_)
  · have : (List.drop n old) = [] := List.drop_eq_nil_of_le (by omega)
    have h := setRow_heap w g _ cs.toArray e _ hb
    unfold Blk
    simp [this]
    exact h
  · exact Only.setRow _ _ _

theorem run_neq_slice_nil {P : Program} (w : World) (t e : TypeId) (a : Option Addr) (n c : Nat) (h : P.underlying t = some (.slice e)) :
    (binOp .neq t (.slice a n c) (.slice none 0 0)).run P w = .ok (.bool (!a.isNone)) w := by
  simp only [binOp]
  simp [Op.equal, Op.maxDepth, Lib.run_equalIn_slice_nil w 9999 t e a n c 0 0 h]

/-- n cells by their index -/
def rowOf (F : Nat → Value) (n : Nat) : List Value := (List.range n).map F
theorem rowOf_len (F : Nat → Value) (n : Nat) : (rowOf F n).length = n := by simp [rowOf]
theorem rowOf_get (F : Nat → Value) {n i : Nat} (h : i < n) : (rowOf F n)[i]? = some (F i) := by simp [rowOf, h]
theorem rowOf_one (F : Nat → Value) (n : Nat) (h : ∀ i, (F i).oneCell' = true) : ∀ v ∈ rowOf F n, v.oneCell' = true := by
  intro v hv
  obtain ⟨i, _, rfl⟩ := List.mem_map.1 hv
  exact h i
theorem rowOf_src (F : Nat → Value) {n b o : Nat} {w w1 : World} (hc : Hid (∀ i, i < n → w.cell? ⟨b, o + i, none⟩ = some (F i))) (hb : b < w.heap.size) (hbel : Below w.heap.size w w1) :
    ∀ j v, (rowOf F n)[j]? = some v → w1.cell? ((⟨b, o, none⟩ : Addr).add j) = some v := by
  intro j v hj
  have hlt : j < n := by
    have := (List.getElem?_eq_some_iff.1 hj).1
    rwa [rowOf_len] at this
  rw [rowOf_get F hlt] at hj
  have e : (⟨b, o, none⟩ : Addr).add j = ⟨b, o + j, none⟩ := by unfold Addr.add; split <;> simp_all
  rw [e, hbel.cell (p := ⟨b, o + j, none⟩) hb, hc.out j hlt]
  exact hj

end Go.Proofs.Qxb6619264a.W
