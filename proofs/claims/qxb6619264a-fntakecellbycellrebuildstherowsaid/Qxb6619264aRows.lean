/-
  No cell of these rows narrows 'for every input' (looked for: loops, veiled, ifaces, maps, wideKeys, modest, calm, conditions, laid).
  DERIVED. THE GIVEN ROWS OF THIS SEAT. 3 by the template 'for every input the law returns true; each argument reads behind the call as it read before'; 0 by the template 'total and deterministic' (their statements: Qxb6619264aTotals.lean).
  GIVEN WITH THE SEED: the statements are not yours to turn. If you find one false, say at which input.
  Laid BY PROGRAM, IN A SANDBOX (cutbox-rows.mjs): the forced cells as the released guide's own fill.sh prints them over the translation d90907c584ad4e4c… (all of the seat's roots in one cut). By AI agents, Wed Nov 11 2026. No macro, syntax, notation, axiom, sorry.
-/
import Derived.Test.Qxb6619264aChecked
import GoSem.Claim
import GoSem.ClaimJoined
import GoSem.ClaimMapViews
import Derived.JoinedTies
import Derived.KernelRfl
namespace Go.Proofs.Qxb6619264a
/- THE CELL 'sum', in the pinned program and in every row, IS THE sha256 OF THE DUMP (.gsa) THAT Qxb6619264aProg.lean LOADS. Nothing in Lean hashes anything: it is a label: what it is worth is what the hold of that sum in a sandbox is worth. -/
noncomputable def Try.pinned : Pinned := { name := "qxb6619264a", sum := "d90907c584ad4e4ca86398275d055852e8e3aae1ff4fcb8126f299e96beb460c", checked := Try.checked }
namespace Rows
def none {H : Type} : Left H := { results := [], args := [] }

/-- 'zzlaws_internal_screen_b1.FnMoveCarriesCellsAndMarks': WHATEVER THE INPUT: true; the input reads as it did. -/
def fnMoveCarriesCellsAndMarksSpec : ChangeSpec := { name := "fnMoveCarriesCellsAndMarks", fn := fun _ => fun
  | [d1, d2, d3, d4, d5, d6, d7, d8, d9, d10] => { results := [.lit (.bool true)], args := [d1, d2, d3, d4, d5, d6, d7, d8, d9, d10] }
  | _ => none }
def fnMoveCarriesCellsAndMarksRow : OpenClaim := { program := "qxb6619264a", sum := "d90907c584ad4e4ca86398275d055852e8e3aae1ff4fcb8126f299e96beb460c", func := "example.com/halyard/halyard/zzlaws_internal_screen_b1.FnMoveCarriesCellsAndMarks", spec := "fnMoveCarriesCellsAndMarks", apart := false }
def FnMoveCarriesCellsAndMarksSaid : Prop := fnMoveCarriesCellsAndMarksRow.holds Try.pinned (OpenSpec.ofChange fnMoveCarriesCellsAndMarksSpec)

/-- ITS FALSE NEIGHBOUR: 'it returns false'. Refute it at one input. -/
def fnMoveCarriesCellsAndMarksWrong : ChangeSpec := { name := "fnMoveCarriesCellsAndMarks", fn := fun _ => fun
  | [d1, d2, d3, d4, d5, d6, d7, d8, d9, d10] => { results := [.lit (.bool false)], args := [d1, d2, d3, d4, d5, d6, d7, d8, d9, d10] }
  | _ => none }
def FnMoveCarriesCellsAndMarksWrongFalsely : Prop := fnMoveCarriesCellsAndMarksRow.holds Try.pinned (OpenSpec.ofChange fnMoveCarriesCellsAndMarksWrong)

/-- 'zzlaws_internal_screen_b1.FnInNextLineEndsAtTheNextLineEnd': WHATEVER THE INPUT: true; the input reads as it did. -/
def fnInNextLineEndsAtTheNextLineEndSpec : ChangeSpec := { name := "fnInNextLineEndsAtTheNextLineEnd", fn := fun _ => fun
  | [d1, d2, d3] => { results := [.lit (.bool true)], args := [d1, d2, d3] }
  | _ => none }
def fnInNextLineEndsAtTheNextLineEndRow : OpenClaim := { program := "qxb6619264a", sum := "d90907c584ad4e4ca86398275d055852e8e3aae1ff4fcb8126f299e96beb460c", func := "example.com/halyard/halyard/zzlaws_internal_screen_b1.FnInNextLineEndsAtTheNextLineEnd", spec := "fnInNextLineEndsAtTheNextLineEnd", apart := false }
def FnInNextLineEndsAtTheNextLineEndSaid : Prop := fnInNextLineEndsAtTheNextLineEndRow.holds Try.pinned (OpenSpec.ofChange fnInNextLineEndsAtTheNextLineEndSpec)

/-- ITS FALSE NEIGHBOUR: 'it returns false'. Refute it at one input. -/
def fnInNextLineEndsAtTheNextLineEndWrong : ChangeSpec := { name := "fnInNextLineEndsAtTheNextLineEnd", fn := fun _ => fun
  | [d1, d2, d3] => { results := [.lit (.bool false)], args := [d1, d2, d3] }
  | _ => none }
def FnInNextLineEndsAtTheNextLineEndWrongFalsely : Prop := fnInNextLineEndsAtTheNextLineEndRow.holds Try.pinned (OpenSpec.ofChange fnInNextLineEndsAtTheNextLineEndWrong)

/-- 'zzlaws_internal_screen_b1.FnTakeCellByCellRebuildsTheRow': WHATEVER THE INPUT: true; the input reads as it did. -/
def fnTakeCellByCellRebuildsTheRowSpec : ChangeSpec := { name := "fnTakeCellByCellRebuildsTheRow", fn := fun _ => fun
  | [d1, d2, d3, d4] => { results := [.lit (.bool true)], args := [d1, d2, d3, d4] }
  | _ => none }
def fnTakeCellByCellRebuildsTheRowRow : OpenClaim := { program := "qxb6619264a", sum := "d90907c584ad4e4ca86398275d055852e8e3aae1ff4fcb8126f299e96beb460c", func := "example.com/halyard/halyard/zzlaws_internal_screen_b1.FnTakeCellByCellRebuildsTheRow", spec := "fnTakeCellByCellRebuildsTheRow", apart := false }
def FnTakeCellByCellRebuildsTheRowSaid : Prop := fnTakeCellByCellRebuildsTheRowRow.holds Try.pinned (OpenSpec.ofChange fnTakeCellByCellRebuildsTheRowSpec)

/-- ITS FALSE NEIGHBOUR: 'it returns false'. Refute it at one input. -/
def fnTakeCellByCellRebuildsTheRowWrong : ChangeSpec := { name := "fnTakeCellByCellRebuildsTheRow", fn := fun _ => fun
  | [d1, d2, d3, d4] => { results := [.lit (.bool false)], args := [d1, d2, d3, d4] }
  | _ => none }
def FnTakeCellByCellRebuildsTheRowWrongFalsely : Prop := fnTakeCellByCellRebuildsTheRowRow.holds Try.pinned (OpenSpec.ofChange fnTakeCellByCellRebuildsTheRowWrong)

end Rows
end Go.Proofs.Qxb6619264a
