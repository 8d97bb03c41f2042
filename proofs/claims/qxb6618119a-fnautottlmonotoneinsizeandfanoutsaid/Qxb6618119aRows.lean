/-
  No cell of these rows narrows 'for every input' (looked for: loops, veiled, ifaces, maps, wideKeys, modest, calm, conditions, laid).
  DERIVED. THE GIVEN ROWS OF THIS SEAT. 2 by the template 'for every input the law returns true; each argument reads behind the call as it read before'; 0 by the template 'total and deterministic' (their statements: Qxb6618119aTotals.lean).
  GIVEN WITH THE SEED: the statements are not yours to turn. If you find one false, say at which input.
  Laid BY PROGRAM, IN A SANDBOX (cutbox-rows.mjs): the forced cells as the released guide's own fill.sh prints them over the translation b13a85933b95644a… (all of the seat's roots in one cut). By AI agents, Wed Nov 11 2026. No macro, syntax, notation, axiom, sorry.
-/
import Derived.Test.Qxb6618119aChecked
import GoSem.Claim
import GoSem.ClaimJoined
import GoSem.ClaimMapViews
import Derived.JoinedTies
import Derived.KernelRfl
namespace Go.Proofs.Qxb6618119a
/- THE CELL 'sum', in the pinned program and in every row, IS THE sha256 OF THE DUMP (.gsa) THAT Qxb6618119aProg.lean LOADS. Nothing in Lean hashes anything: it is a label: what it is worth is what the hold of that sum in a sandbox is worth. -/
noncomputable def Try.pinned : Pinned := { name := "qxb6618119a", sum := "b13a85933b95644aec4c3af0f796460f9a80064101636aa6c5729fc05d56ddf8", checked := Try.checked }
namespace Rows
def none {H : Type} : Left H := { results := [], args := [] }

/-- 'zzlaws_root_b1.FnAutoTTLIsFirstHopWhoseHalfwayReachesAim': WHATEVER THE INPUT: true; the input reads as it did. -/
def fnAutoTTLIsFirstHopWhoseHalfwayReachesAimSpec : ChangeSpec := { name := "fnAutoTTLIsFirstHopWhoseHalfwayReachesAim", fn := fun _ => fun
  | [d1, d2] => { results := [.lit (.bool true)], args := [d1, d2] }
  | _ => none }
def fnAutoTTLIsFirstHopWhoseHalfwayReachesAimRow : OpenClaim := { program := "qxb6618119a", sum := "b13a85933b95644aec4c3af0f796460f9a80064101636aa6c5729fc05d56ddf8", func := "example.com/rumorwire/rumorwire/zzlaws_root_b1.FnAutoTTLIsFirstHopWhoseHalfwayReachesAim", spec := "fnAutoTTLIsFirstHopWhoseHalfwayReachesAim", apart := false }
def FnAutoTTLIsFirstHopWhoseHalfwayReachesAimSaid : Prop := fnAutoTTLIsFirstHopWhoseHalfwayReachesAimRow.holds Try.pinned (OpenSpec.ofChange fnAutoTTLIsFirstHopWhoseHalfwayReachesAimSpec)

/-- ITS FALSE NEIGHBOUR: 'it returns false'. Refute it at one input. -/
def fnAutoTTLIsFirstHopWhoseHalfwayReachesAimWrong : ChangeSpec := { name := "fnAutoTTLIsFirstHopWhoseHalfwayReachesAim", fn := fun _ => fun
  | [d1, d2] => { results := [.lit (.bool false)], args := [d1, d2] }
  | _ => none }
def FnAutoTTLIsFirstHopWhoseHalfwayReachesAimWrongFalsely : Prop := fnAutoTTLIsFirstHopWhoseHalfwayReachesAimRow.holds Try.pinned (OpenSpec.ofChange fnAutoTTLIsFirstHopWhoseHalfwayReachesAimWrong)

/-- 'zzlaws_root_b1.FnAutoTTLMonotoneInSizeAndFanout': WHATEVER THE INPUT: true; the input reads as it did. -/
def fnAutoTTLMonotoneInSizeAndFanoutSpec : ChangeSpec := { name := "fnAutoTTLMonotoneInSizeAndFanout", fn := fun _ => fun
  | [d1, d2, d3, d4] => { results := [.lit (.bool true)], args := [d1, d2, d3, d4] }
  | _ => none }
def fnAutoTTLMonotoneInSizeAndFanoutRow : OpenClaim := { program := "qxb6618119a", sum := "b13a85933b95644aec4c3af0f796460f9a80064101636aa6c5729fc05d56ddf8", func := "example.com/rumorwire/rumorwire/zzlaws_root_b1.FnAutoTTLMonotoneInSizeAndFanout", spec := "fnAutoTTLMonotoneInSizeAndFanout", apart := false }
def FnAutoTTLMonotoneInSizeAndFanoutSaid : Prop := fnAutoTTLMonotoneInSizeAndFanoutRow.holds Try.pinned (OpenSpec.ofChange fnAutoTTLMonotoneInSizeAndFanoutSpec)

/-- ITS FALSE NEIGHBOUR: 'it returns false'. Refute it at one input. -/
def fnAutoTTLMonotoneInSizeAndFanoutWrong : ChangeSpec := { name := "fnAutoTTLMonotoneInSizeAndFanout", fn := fun _ => fun
  | [d1, d2, d3, d4] => { results := [.lit (.bool false)], args := [d1, d2, d3, d4] }
  | _ => none }
def FnAutoTTLMonotoneInSizeAndFanoutWrongFalsely : Prop := fnAutoTTLMonotoneInSizeAndFanoutRow.holds Try.pinned (OpenSpec.ofChange fnAutoTTLMonotoneInSizeAndFanoutWrong)

end Rows
end Go.Proofs.Qxb6618119a
