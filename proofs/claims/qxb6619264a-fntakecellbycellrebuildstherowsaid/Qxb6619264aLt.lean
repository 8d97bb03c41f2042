import Derived.Test.Qxb6619264aLtP
import Derived.Test.Qxb6619264aLtQ
namespace Go.Proofs.Qxb6619264a.Tk
open Go.RowKit Go.Proofs.Qxb6619264a.W Go.Proofs.Qxb6619264a.Cl
set_option linter.unusedVariables false

set_option maxRecDepth 20000 in
set_option maxHeartbeats 4000000 in
/-- too long a row, or too many marks -/
theorem law_long (a0 ak av : Option Addr) (n0 c0 nk ck nv cv : Nat) (A : Nat → Option Addr) (L Cp : Nat → Nat) (cols : Int) (w : World)
    (l0 : n0 ≤ maxLen) (l1 : nk ≤ maxLen) (l2 : nv ≤ maxLen) (iv : In w av nv (fun i => .slice (A i) (L i) (Cp i))) (hL : ∀ i, i < nv → L i ≤ maxLen) (h : 65535 < n0 ∨ 4096 < nk ∨ 4096 < nv) :
    Calls Try.prog 5 #[.slice a0 n0 c0, .slice ak nk ck, .slice av nv cv, .int .i64 cols] w fun e w' => e = .returned (.bool true) ∧ Below w.heap.size w w' := by
  have H := bytesT a0 ak av n0 c0 nk ck nv cv A L Cp cols w l0 l1 l2 iv hL
  have HM : Hid (n0 ≤ maxLen ∧ nk ≤ maxLen ∧ nv ≤ maxLen) := ⟨l0, l1, l2⟩
  unfold maxLen at l0 l1 l2
  clear iv hL
  go_enter Try.func5, Try.ntmps5
  go_wp2_with fail
  refine H.mono ?_
  rintro e w' ⟨b, rfl, hw⟩
  have hw := hw.symm
  subst hw
  cases b with
  | false =>
    go_wp2
    go_ret
    exact ⟨rfl, Below.refl _ _⟩
  | true =>
    by_cases h0 : 65535 < n0
    · clear h
      go_wp2
      go_ret
      exact ⟨rfl, Below.refl _ _⟩
    · by_cases h1 : 4096 < nk
      · clear h
        go_wp2
        go_ret
        exact ⟨rfl, Below.refl _ _⟩
      · have h2 : 4096 < nv := by omega
        clear h
        go_wp2
        go_ret
        exact ⟨rfl, Below.refl _ _⟩

set_option maxRecDepth 20000 in
set_option maxHeartbeats 4000000 in
/-- too wide a screen -/
theorem law_wide (a0 ak av : Option Addr) (n0 c0 nk ck nv cv : Nat) (A : Nat → Option Addr) (L Cp : Nat → Nat) (cols : Int) (w : World)
    (h0 : n0 ≤ 65535) (h1 : nk ≤ 4096) (h2 : nv ≤ 4096) (iv : In w av nv (fun i => .slice (A i) (L i) (Cp i))) (hL : ∀ i, i < nv → L i ≤ maxLen) (hc : 65535 < cols) :
    Calls Try.prog 5 #[.slice a0 n0 c0, .slice ak nk ck, .slice av nv cv, .int .i64 cols] w fun e w' => e = .returned (.bool true) ∧ Below w.heap.size w w' := by
  have H := bytesT a0 ak av n0 c0 nk ck nv cv A L Cp cols w (by unfold maxLen; omega) (by unfold maxLen; omega) (by unfold maxLen; omega) iv hL
  have H2 := lineBytes a0 ak av n0 c0 nk ck nv cv A L Cp w (by omega) (by omega) (by omega) iv hL
  clear iv hL
  go_enter Try.func5, Try.ntmps5
  go_wp2_with fail
  refine H.mono ?_
  rintro e w' ⟨b, rfl, hw⟩
  have hw := hw.symm
  subst hw
  cases b with
  | false =>
    go_wp2
    go_ret
    exact ⟨rfl, Below.refl _ _⟩
  | true =>
    go_wp2_with fail
    refine H2.mono ?_
    rintro e w' ⟨r, rfl, hw, _⟩
    have hw := hw.symm
    subst hw
    by_cases hr : 1048576 < r
    · go_wp2
      go_ret
      exact ⟨rfl, Below.refl _ _⟩
    · by_cases hvk : nk = nv
      · subst hvk
        go_wp2
        go_ret
        exact ⟨rfl, Below.refl _ _⟩
      · have hvk2 : ((nv : Int) == (nk : Int)) = false := by simp; omega
        go_wp2
        go_ret
        exact ⟨rfl, Below.refl _ _⟩

theorem law_take (a0 ak av : Option Addr) (n0 c0 nk ck nv cv : Nat) (C : Nat → Int) (K : Nat → Int) (A : Nat → Option Addr) (L Cp : Nat → Nat) (R : Nat → Nat → Int) (cols : Int) (w : World)
    (l0 : n0 ≤ maxLen) (l1 : nk ≤ maxLen) (l2 : nv ≤ maxLen) (z0 : a0 = none → n0 = 0) (zk : ak = none → nk = 0) (zv : av = none → nv = 0)
    (i0 : In w a0 n0 (fun i => .int .i32 (C i))) (ik : In w ak nk (fun i => .int .i64 (K i))) (iv : In w av nv (fun i => .slice (A i) (L i) (Cp i)))
    (wfK : ∀ i, i < nk → (Lit.int .i64 (K i)).wf = true) (hL : ∀ i, i < nv → L i ≤ maxLen) (hA : ∀ i, i < nv → A i = none → L i = 0) (hR : ∀ i, i < nv → In w (A i) (L i) (fun j => .int .i32 (R i j)))
    (bcols : -9223372036854775808 ≤ cols ∧ cols ≤ 9223372036854775807) :
    Calls Try.prog 5 #[.slice a0 n0 c0, .slice ak nk ck, .slice av nv cv, .int .i64 cols] w fun e w' => e = .returned (.bool true) ∧ Below w.heap.size w w' := by
  by_cases h : 65535 < n0 ∨ 4096 < nk ∨ 4096 < nv
  · exact law_long a0 ak av n0 c0 nk ck nv cv A L Cp cols w l0 l1 l2 iv hL h
  · by_cases hc : 65535 < cols
    · exact law_wide a0 ak av n0 c0 nk ck nv cv A L Cp cols w (by omega) (by omega) (by omega) iv hL hc
    · by_cases hq : (n0 : Int) < cols
      · obtain ⟨q, rfl⟩ : ∃ q : Nat, cols = q := ⟨cols.toNat, by omega⟩
        exact law_P a0 ak av n0 c0 nk ck nv cv C K A L Cp R q w (by omega) (by omega) (by omega) z0 zk zv i0 ik iv wfK hL hA hR bcols.1 ⟨by omega, by omega⟩
      · exact law_Q a0 ak av n0 c0 nk ck nv cv C K A L Cp R cols w (by omega) (by omega) (by omega) z0 zk zv i0 ik iv wfK hL hA hR bcols.1 (by omega)

end Go.Proofs.Qxb6619264a.Tk
