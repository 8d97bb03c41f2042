import Derived.Test.Qxb6619264aRows
import Derived.WalkKit
import Derived.ProofKit
import Derived.OpenShut
import Derived.ShutString
import Derived.ChangeOld
import Derived.Below
import Derived.Deep.Slices
import Derived.Test.Qxb6619264aV
/- What an argument that is a slice, or a slice of slices, tells the walk. -/
namespace Go.Proofs.Qxb6619264a.Op
open Go.ChangeShapes Go.WideShapes Go.ChangeAt Go.RowKit
open Go.Proofs.Qxb6619264a.W

theorem own : ownKnob Try.prog.godebug = none := by kernel_rfl
theorem laidOut : laidOutB Try.prog = true := by kernel_rfl

theorem add_none {x : Addr} {w : World} {v : Value} (h : w.cell? (x.add 0) = some v) : ∃ b o, x = ⟨b, o, none⟩ := by
  obtain ⟨b, o, spot⟩ := x
  have hspot : spot = none := by simpa [Addr.add] using World.cell?_spot h
  subst hspot
  exact ⟨b, o, rfl⟩
theorem add_eq (b o i : Nat) : (⟨b, o, none⟩ : Addr).add i = ⟨b, o + i, none⟩ := by unfold Addr.add; split <;> simp_all

theorem in_of {w : World} {x : Addr} {n : Nat} {F : Nat → Value} (h : ∀ i, i < n → w.cell? (x.add i) = some (F i)) : In w (some x) n F := by
  by_cases hn : n = 0
  · exact .inl hn
  · obtain ⟨b, o, rfl⟩ := add_none (h 0 (by omega))
    have hb := World.block_lt_of_cell? w _ (h 0 (by omega))
    rw [add_eq] at hb
    exact .inr ⟨b, o, rfl, hb, fun i hi => by rw [← add_eq]; exact h i hi⟩

/-- a slice of integers that came in -/
structure IsInts (k : IntKind) (w : World) (a : Option Addr) (n : Nat) (Z : Nat → Int) : Prop where
  len : n ≤ maxLen
  nil : a = none → n = 0
  cells : In w a n (fun i => .int k (Z i))
  wf : ∀ i, i < n → (Lit.int k (Z i)).wf = true

theorem isInts {H : Type} {enc : TypeId × Value → H} {W : World} {t e : TypeId} {k : IntKind} (ht : Try.prog.underlying t = some (.slice e)) (he : Try.prog.underlying e = some (.int k)) (hc : Try.prog.cellsOf e = 1) {fuel : Nat} {a : Option Addr} {n c : Nat} {x : DataW H × List MemPlace}
    (h : DataW.trod enc Try.prog W 0 (fun _ => true) true fuel t [.slice a n c] = some x) : ∃ Z, IsInts k W a n Z := by
  rcases open_ints ht he hc h with ⟨hcs, _⟩ | ⟨y, l, c', zs, hcs, _, hl, hm, hz, _, hcell, hwz⟩
  · simp at hcs
    obtain ⟨rfl, rfl, rfl⟩ := hcs
    exact ⟨fun _ => 0, ⟨Nat.zero_le _, fun _ => rfl, .inl rfl, fun i hi => absurd hi (Nat.not_lt_zero _)⟩⟩
  · simp at hcs
    obtain ⟨rfl, rfl, rfl⟩ := hcs
    have hzl : zs.length = c := by simpa using hz
    refine ⟨fun i => zs.getD i 0, ⟨by omega, fun h => (by cases h), in_of (fun i hi => hcell i (by omega)), fun i hi => hwz _ ?_⟩⟩
    show zs.getD i 0 ∈ zs
    rw [List.getD_eq_getElem?_getD, List.getElem?_eq_getElem (show i < zs.length by omega)]
    exact List.getElem_mem _

/-- a slice of slices of runes that came in -/
structure IsRows (w : World) (a : Option Addr) (n : Nat) (A : Nat → Option Addr) (L Cp : Nat → Nat) (R : Nat → Nat → Int) : Prop where
  len : n ≤ maxLen
  nil : a = none → n = 0
  cells : In w a n (fun i => .slice (A i) (L i) (Cp i))
  lens : ∀ i, i < n → L i ≤ maxLen
  nils : ∀ i, i < n → A i = none → L i = 0
  rows : ∀ i, i < n → In w (A i) (L i) (fun j => .int .i32 (R i j))

theorem isRows {H : Type} {enc : TypeId × Value → H} {W : World} {fuel : Nat} {a : Option Addr} {n c : Nat} {x : DataW H × List MemPlace}
    (h : DataW.trod enc Try.prog W 0 (fun _ => true) true fuel 24 [.slice a n c] = some x) : ∃ A L Cp R, IsRows W a n A L Cp R := by
  rcases Deep.open_slice1 Try.underlying24 (by kernel_rfl) h with ⟨hcs, _⟩ | ⟨y, l, c', m, fu, V, D, Pl, hcs, _, hl, hm, hmm, _, hcell⟩
  · simp at hcs
    obtain ⟨rfl, rfl, rfl⟩ := hcs
    exact ⟨fun _ => none, fun _ => 0, fun _ => 0, fun _ _ => 0, ⟨Nat.zero_le _, fun _ => rfl, .inl rfl, fun i hi => absurd hi (Nat.not_lt_zero _), fun i hi => absurd hi (Nat.not_lt_zero _), fun i hi => absurd hi (Nat.not_lt_zero _)⟩⟩
  · simp at hcs
    obtain ⟨rfl, rfl, rfl⟩ := hcs
    have hmm2 : n ≤ m := by rw [hmm]; simp; omega
    have hb : ∀ i, i < n → ∃ q : Option Addr × Nat × Nat × (Nat → Int), V i = .slice q.1 q.2.1 q.2.2.1 ∧ IsInts .i32 W q.1 q.2.1 q.2.2.2 := fun i hi => by
      have ht := (hcell i (by omega)).2
      rcases open_ints Try.underlying22 Try.underlying21 (by kernel_rfl) ht with ⟨h1, _⟩ | ⟨z, l', c'', zs, h1, _⟩
      · simp at h1
        rw [h1] at ht
        obtain ⟨Z, hZ⟩ := isInts Try.underlying22 Try.underlying21 (by kernel_rfl) ht
        exact ⟨(none, 0, 0, Z), h1, hZ⟩
      · simp at h1
        rw [h1] at ht
        obtain ⟨Z, hZ⟩ := isInts Try.underlying22 Try.underlying21 (by kernel_rfl) ht
        exact ⟨(some z, l', c'', Z), h1, hZ⟩
    obtain ⟨Q, hQ⟩ := Deep.choose_lt hb
    refine ⟨fun i => (Q i).1, fun i => (Q i).2.1, fun i => (Q i).2.2.1, fun i => (Q i).2.2.2, ⟨by omega, fun h => (by cases h), in_of (fun i hi => ?_), fun i hi => (hQ i hi).2.len, fun i hi => (hQ i hi).2.nil, fun i hi => (hQ i hi).2.cells⟩⟩
    rw [← (hQ i hi).1]; exact (hcell i (by omega)).1

end Go.Proofs.Qxb6619264a.Op
