import Derived.Test.Qxb6619264aMy
import Derived.Test.Qxb6619264aCm
import Derived.Test.Qxb6619264aCo
import Derived.Test.Qxb6619264aBy
import Derived.Test.Qxb6619264aCt
namespace Go.Proofs.Qxb6619264a.Cl
open Go.RowKit Go.Proofs.Qxb6619264a.W
set_option linter.unusedVariables false

theorem ret_bool {a b : Bool} (h : a = b) : Ending.returned (.bool a) = .returned (.bool b) := by rw [h]
/-- the address of a slice -/
def aOf : Value → Option Addr | .slice a _ _ => a | _ => none

theorem owns_in {w : World} {B T : Nat} {n : Nat} {V : Nat → Value} {A : Nat → Option Addr} {L : Nat → Nat} {R : Nat → Nat → Int}
    (h : ∀ i, i < n → Own w B T 21 (V i) (A i).isNone (L i) (fun j => .int .i32 (R i j))) :
    ∀ i, i < n → V i = .slice (aOf (V i)) (L i) (L i) ∧ (A i).isNone = (aOf (V i)).isNone ∧ In w (aOf (V i)) (L i) (fun j => .int .i32 (R i j)) := by
  intro i hi
  obtain ⟨a, h1, h2, h3⟩ := (h i hi).isIn
  rw [h1]
  exact ⟨rfl, h2, h3⟩

theorem own_congr {w : World} {B T : Nat} {e : TypeId} {v : Value} {nil : Bool} {n : Nat} {F G : Nat → Value} (h : Own w B T e v nil n F) (hFG : ∀ i, i < n → F i = G i) : Own w B T e v nil n G := by
  rcases h with h | ⟨h1, g, h2, h3, h4, h5⟩
  · exact .inl h
  · exact .inr ⟨h1, g, h2, h3, h4, by rw [← rowOf_congr hFG]; exact h5⟩
theorem in_congr {w : World} {a : Option Addr} {n : Nat} {F G : Nat → Value} (h : In w a n F) (hFG : ∀ i, i < n → F i = G i) : In w a n G := by
  rcases h with h | ⟨b, o, h1, h2, h3⟩
  · exact .inl h
  · exact .inr ⟨b, o, h1, h2, fun i hi => by rw [← hFG i hi]; exact h3 i hi⟩

end Go.Proofs.Qxb6619264a.Cl
