import Derived.Test.Qxb6619264aLb
namespace Go.Proofs.Qxb6619264a.Cl
open Go.RowKit Go.Proofs.Qxb6619264a.W
set_option linter.unusedVariables false

set_option maxRecDepth 20000 in
set_option maxHeartbeats 8000000 in
theorem early3 (a0 ak av : Option Addr) (n0 c0 nk ck nv cv : Nat) (C : Nat → Int) (K : Nat → Int) (A : Nat → Option Addr) (L Cp : Nat → Nat) (R : Nat → Nat → Int) (us sz : Int) (wp : Bool) (cols q2 q3 q4 : Int) (w : World)
    (h0 : n0 ≤ 65536) (h1 : nk ≤ 4096) (h2 : nv ≤ 4096) (z0 : a0 = none → n0 = 0) (zk : ak = none → nk = 0) (zv : av = none → nv = 0)
    (i0 : In w a0 n0 (fun i => .int .i32 (C i))) (ik : In w ak nk (fun i => .int .i64 (K i))) (iv : In w av nv (fun i => .slice (A i) (L i) (Cp i)))
    (wfK : ∀ i, i < nk → (Lit.int .i64 (K i)).wf = true) (hL : ∀ i, i < nv → L i ≤ maxLen) (hA : ∀ i, i < nv → A i = none → L i = 0) (hR : ∀ i, i < nv → In w (A i) (L i) (fun j => .int .i32 (R i j)))
    (bus : 0 ≤ us ∧ us ≤ 65535) (bsz : 0 ≤ sz ∧ sz ≤ 65535) (bcols : -9223372036854775808 ≤ cols ∧ cols ≤ 9223372036854775807) (bq2 : -9223372036854775808 ≤ q2 ∧ q2 ≤ 9223372036854775807) (bq3 : -9223372036854775808 ≤ q3 ∧ q3 ≤ 9223372036854775807) (bq4 : -9223372036854775808 ≤ q4 ∧ q4 ≤ 9223372036854775807) (hcl : 65535 < cols) :
    Calls Try.prog 3 #[.slice a0 n0 c0, .slice ak nk ck, .slice av nv cv, .int .u16 us, .int .u16 sz, .bool wp, .int .i64 cols, .int .i64 q2, .int .i64 q3, .int .i64 q4] w fun e w' => e = .returned (.bool true) ∧ Below w.heap.size w w' := by
  have HIv : Hid (In w av nv (fun i => .slice (A i) (L i) (Cp i)) ∧ (av = none → nv = 0)) := ⟨iv, zv⟩
  have HLm : Hid (∀ i, i < nv → L i ≤ maxLen) := hL
  obtain ⟨bq20, bq21⟩ := bq2
  obtain ⟨bq30, bq31⟩ := bq3
  obtain ⟨bq40, bq41⟩ := bq4
  have q0 := fun w => run_neq_slice_nil (P := Try.prog) w 22 21 a0 n0 c0 Try.underlying22
  clear i0 ik iv z0 zk zv hL hA hR wfK
  go_enter Try.func3, Try.ntmps3
  go_wp2_with fail
  refine (bytesM a0 ak av n0 c0 nk ck nv cv A L Cp us sz wp cols q2 q3 q4 w (by unfold maxLen; omega) (by unfold maxLen; omega) (by unfold maxLen; omega) HIv.out.1 HLm.out).mono ?_
  rintro e w' ⟨b, rfl, hw⟩
  subst hw
  cases b with
  | false =>
    go_wp2
    go_ret
    exact ⟨rfl, Below.refl _ _⟩
  | true =>
    go_wp2_with fail
    refine (lineBytes a0 ak av n0 c0 nk ck nv cv A L Cp w' h0 (by omega) (by omega) HIv.out.1 HLm.out).mono ?_
    rintro e w'' ⟨r, rfl, hw, hsh⟩
    subst hw
    clear hsh
    by_cases hr : 1048576 < r
    · go_wp2
      go_ret
      exact ⟨rfl, Below.refl _ _⟩
    · by_cases hvk : nk = nv
      · subst hvk
        go_wp2
        go_ret
        exact ⟨rfl, Below.refl _ _⟩
      · have hvk2 : ((nv : Int) == (nk : Int)) = false := by simp; omega
        go_wp2
        go_ret
        exact ⟨rfl, Below.refl _ _⟩

end Go.Proofs.Qxb6619264a.Cl
