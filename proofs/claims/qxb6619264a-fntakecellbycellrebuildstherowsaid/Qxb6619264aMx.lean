import Derived.Test.Qxb6619264aMv
import Derived.OpenShut
namespace Go.Proofs.Qxb6619264a.Cl
open Go.RowKit Go.Proofs.Qxb6619264a.W
set_option linter.unusedVariables false

/-- the blocks that a move may write to -/
def mvS (gl B T : Nat) (k : Nat) : Prop := k = gl ∨ (B ≤ k ∧ k < T)

theorem size21 : (Try.prog.info? 21).map (·.size) = some 1 := by kernel_rfl
theorem zero21 (w : World) : (zeroValue 21).run Try.prog w = .ok (.int .i32 0) w := by kernel_rfl
theorem src_dest0 {f c : Nat} {x : Int} (h1 : (f : Int) ≤ x) (h2 : x < (f : Int) + c) : srcK f f c x = some x := by
  have h := src_dest1 (t := f) h1 h2
  rwa [show x - (f : Int) + f = x from by omega] at h
theorem wf64 {x : Int} (h : (Lit.int .i64 x).wf = true) : -9223372036854775808 ≤ x ∧ x ≤ 9223372036854775807 := bounds_i64 h
theorem wf64mk {x : Int} (h1 : -9223372036854775808 ≤ x) (h2 : x ≤ 9223372036854775807) : (Lit.int .i64 x).wf = true := WalkArith.wf_i64 ⟨h1, h2⟩

end Go.Proofs.Qxb6619264a.Cl
