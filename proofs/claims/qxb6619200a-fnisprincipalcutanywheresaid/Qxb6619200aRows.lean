/-
  No cell of these rows narrows 'for every input' (looked for: loops, veiled, ifaces, maps, wideKeys, modest, calm, conditions, laid).
  DERIVED. THE GIVEN ROWS OF THIS SEAT. 3 by the template 'for every input the law returns true; each argument reads behind the call as it read before'; 0 by the template 'total and deterministic' (their statements: Qxb6619200aTotals.lean).
  GIVEN WITH THE SEED: the statements are not yours to turn. If you find one false, say at which input.
  Laid BY PROGRAM, IN A SANDBOX (cutbox-rows.mjs): the forced cells as the released guide's own fill.sh prints them over the translation 4fcb8a9b881d506f… (all of the seat's roots in one cut). By AI agents, Wed Nov 11 2026. No macro, syntax, notation, axiom, sorry.
-/
import Derived.Test.Qxb6619200aChecked
import GoSem.Claim
import GoSem.ClaimJoined
import GoSem.ClaimMapViews
import Derived.JoinedTies
import Derived.KernelRfl
namespace Go.Proofs.Qxb6619200a
/- THE CELL 'sum', in the pinned program and in every row, IS THE sha256 OF THE DUMP (.gsa) THAT Qxb6619200aProg.lean LOADS. Nothing in Lean hashes anything: it is a label: what it is worth is what the hold of that sum in a sandbox is worth. -/
noncomputable def Try.pinned : Pinned := { name := "qxb6619200a", sum := "4fcb8a9b881d506ff02f13c4dfe9962ffe39d7095c29aa580c94c696f274e69b", checked := Try.checked }
namespace Rows
def none {H : Type} : Left H := { results := [], args := [] }

/-- 'zzlaws_keynote_b1.FnIsPrincipalCutAnywhere': WHATEVER THE INPUT: true; the input reads as it did. -/
def fnIsPrincipalCutAnywhereSpec : ChangeSpec := { name := "fnIsPrincipalCutAnywhere", fn := fun _ => fun
  | [d1, d2] => { results := [.lit (.bool true)], args := [d1, d2] }
  | _ => none }
def fnIsPrincipalCutAnywhereRow : OpenClaim := { program := "qxb6619200a", sum := "4fcb8a9b881d506ff02f13c4dfe9962ffe39d7095c29aa580c94c696f274e69b", func := "example.com/bare-authz/bare-authz/zzlaws_keynote_b1.FnIsPrincipalCutAnywhere", spec := "fnIsPrincipalCutAnywhere", apart := false }
def FnIsPrincipalCutAnywhereSaid : Prop := fnIsPrincipalCutAnywhereRow.holds Try.pinned (OpenSpec.ofChange fnIsPrincipalCutAnywhereSpec)

/-- ITS FALSE NEIGHBOUR: 'it returns false'. Refute it at one input. -/
def fnIsPrincipalCutAnywhereWrong : ChangeSpec := { name := "fnIsPrincipalCutAnywhere", fn := fun _ => fun
  | [d1, d2] => { results := [.lit (.bool false)], args := [d1, d2] }
  | _ => none }
def FnIsPrincipalCutAnywhereWrongFalsely : Prop := fnIsPrincipalCutAnywhereRow.holds Try.pinned (OpenSpec.ofChange fnIsPrincipalCutAnywhereWrong)

/-- 'zzlaws_keynote_b1.FnComparesNegationAndSwap': WHATEVER THE INPUT: true; the input reads as it did. -/
def fnComparesNegationAndSwapSpec : ChangeSpec := { name := "fnComparesNegationAndSwap", fn := fun _ => fun
  | [d1, d2] => { results := [.lit (.bool true)], args := [d1, d2] }
  | _ => none }
def fnComparesNegationAndSwapRow : OpenClaim := { program := "qxb6619200a", sum := "4fcb8a9b881d506ff02f13c4dfe9962ffe39d7095c29aa580c94c696f274e69b", func := "example.com/bare-authz/bare-authz/zzlaws_keynote_b1.FnComparesNegationAndSwap", spec := "fnComparesNegationAndSwap", apart := false }
def FnComparesNegationAndSwapSaid : Prop := fnComparesNegationAndSwapRow.holds Try.pinned (OpenSpec.ofChange fnComparesNegationAndSwapSpec)

/-- ITS FALSE NEIGHBOUR: 'it returns false'. Refute it at one input. -/
def fnComparesNegationAndSwapWrong : ChangeSpec := { name := "fnComparesNegationAndSwap", fn := fun _ => fun
  | [d1, d2] => { results := [.lit (.bool false)], args := [d1, d2] }
  | _ => none }
def FnComparesNegationAndSwapWrongFalsely : Prop := fnComparesNegationAndSwapRow.holds Try.pinned (OpenSpec.ofChange fnComparesNegationAndSwapWrong)

/-- 'zzlaws_keynote_b1.FnComparesIsUnionOfOutcomes': WHATEVER THE INPUT: true; the input reads as it did. -/
def fnComparesIsUnionOfOutcomesSpec : ChangeSpec := { name := "fnComparesIsUnionOfOutcomes", fn := fun _ => fun
  | [d1, d2] => { results := [.lit (.bool true)], args := [d1, d2] }
  | _ => none }
def fnComparesIsUnionOfOutcomesRow : OpenClaim := { program := "qxb6619200a", sum := "4fcb8a9b881d506ff02f13c4dfe9962ffe39d7095c29aa580c94c696f274e69b", func := "example.com/bare-authz/bare-authz/zzlaws_keynote_b1.FnComparesIsUnionOfOutcomes", spec := "fnComparesIsUnionOfOutcomes", apart := false }
def FnComparesIsUnionOfOutcomesSaid : Prop := fnComparesIsUnionOfOutcomesRow.holds Try.pinned (OpenSpec.ofChange fnComparesIsUnionOfOutcomesSpec)

/-- ITS FALSE NEIGHBOUR: 'it returns false'. Refute it at one input. -/
def fnComparesIsUnionOfOutcomesWrong : ChangeSpec := { name := "fnComparesIsUnionOfOutcomes", fn := fun _ => fun
  | [d1, d2] => { results := [.lit (.bool false)], args := [d1, d2] }
  | _ => none }
def FnComparesIsUnionOfOutcomesWrongFalsely : Prop := fnComparesIsUnionOfOutcomesRow.holds Try.pinned (OpenSpec.ofChange fnComparesIsUnionOfOutcomesWrong)

end Rows
end Go.Proofs.Qxb6619200a
