import Derived.Test.Qxb6619200aRows
import Derived.WalkKit
import Derived.ProofKit
import Derived.OpenShut
import Derived.ShutString
import Derived.Test.Qxb6619200aPrin
namespace Go.Proofs.Qxb6619200a.fnIsPrincipalCutAnywhere
open Go.ChangeShapes Go.WideShapes Go.ChangeAt Go.RowKit
open Go.ChangeMaps (open_string shut_string)
set_option linter.unusedVariables false      -- a walk need not use every 'w<i>' (that an integer argument fits its kind)

theorem own : ownKnob Try.prog.godebug = none := by kernel_rfl

/-! ### STEP 1: THE WALK: the Go text returns true. 'Grown w w'': the world has at most new blocks (Derived/RowKit3.lean). Part the cases AHEAD of 'go_enter' where a test parts the walk; take each callee by a contract of your own. -/
open Go.Proofs.Qxb6619200a.Prin in
set_option maxHeartbeats 8000000 in
theorem walk (a0 : ByteArray) (a1 : Int) (w0 : a0.size ≤ maxLen) (w1 : (Lit.int .i64 a1).wf = true) (w : World) :
    Calls Try.prog 3 #[.string a0, .int .i64 a1] w fun e w' => e = .returned (.bool true) ∧ Grown w w' := by
  have hz : a0.size ≤ 9223372036854775807 := by have := w0; unfold maxLen at this; omega
  clear w0 w1
  by_cases hbig : 1048576 < (a0.size : Int)
  · go_enter Try.func3, Try.ntmps3
    go_wp2_with (first | (go_at_call 6; go_in))
    go_ret
    exact ⟨rfl, Grown.refl _⟩
  have hs : a0.size ≤ 1048576 := by omega
  clear hbig hz
  by_cases hneg : a1 < 0
  · skip
    go_enter Try.func3, Try.ntmps3
    go_wp2_with (first | (go_at_call 6; go_in))
    go_ret
    exact ⟨rfl, Grown.refl _⟩
  by_cases hover : (a0.size : Int) < a1
  · go_enter Try.func3, Try.ntmps3
    go_wp2_with (first | (go_at_call 6; go_in))
    go_ret
    exact ⟨rfl, Grown.refl _⟩
  obtain ⟨k, rfl⟩ : ∃ k : Nat, a1 = k := ⟨a1.toNat, by omega⟩
  have hk : k ≤ a0.size := by omega
  clear hneg hover
  by_cases h0 : a0.size = 0
  · have he := toList_isEmpty_true a0 h0
    have HP : Hid (prB a0.data.toList = false) := prB_empty a0 h0
    obtain rfl : k = 0 := by omega
    go_enter Try.func3, Try.ntmps3
    go_wp2_with (first | (go_at_call 6; go_in))
    refine (prin_val (a0) _ hs false HP).mono ?_
    rintro e w' ⟨rfl, rfl⟩
    go_wp2
    go_ret
    exact ⟨rfl, Grown.refl _⟩
  have he := toList_isEmpty_false a0 h0
  by_cases hlast : k = a0.size
  · -- the tail is empty
    have hh : (a0.extract 0 k).toList.isEmpty = false := toList_isEmpty_false _ (by rw [ByteArray.size_extract]; omega)
    have ht : (a0.extract k a0.size).toList.isEmpty = true := toList_isEmpty_true _ (by rw [ByteArray.size_extract]; omega)
    have hw : prB (a0.extract 0 k).data.toList = prB a0.data.toList := by
      rw [data_extract]; simp; rw [List.take_of_length_le (by simp; omega)]
    have hge : (a0.size : Int) ≤ (k : Int) := by omega
    clear hlast h0
    cases hb : prB a0.data.toList with
    | false =>
      have H1 : Hid (prB a0.data.toList = false) := hb
      have H2 : Hid (prB (a0.extract 0 k).data.toList = false) := hw.trans hb
      clear hb hw
      go_enter Try.func3, Try.ntmps3
      go_wp2_with (first | (go_at_call 6; go_in))
      refine (prin_val (a0) _ hs false H1).mono ?_
      rintro e w' ⟨rfl, rfl⟩
      go_wp2_with fail
      refine (prin_val (a0.extract 0 k) _ (size_ext _ _ _ hs) false H2).mono ?_
      rintro e w' ⟨rfl, rfl⟩
      go_wp2
      go_ret
      exact ⟨rfl, Grown.refl _⟩
    | true =>
      have H1 : Hid (prB a0.data.toList = true) := hb
      have H2 : Hid (prB (a0.extract 0 k).data.toList = true) := hw.trans hb
      clear hb hw
      go_enter Try.func3, Try.ntmps3
      go_wp2_with (first | (go_at_call 6; go_in))
      refine (prin_val (a0) _ hs true H1).mono ?_
      rintro e w' ⟨rfl, rfl⟩
      go_wp2_with fail
      refine (prin_val (a0.extract 0 k) _ (size_ext _ _ _ hs) true H2).mono ?_
      rintro e w' ⟨rfl, rfl⟩
      go_wp2
      go_ret
      exact ⟨rfl, Grown.refl _⟩
  have hlt : k < a0.size := by omega
  have ht : (a0.extract k a0.size).toList.isEmpty = false := toList_isEmpty_false _ (by rw [ByteArray.size_extract]; omega)
  have hlt1 : (k : Int) + 1 ≤ (a0.size : Int) := by omega
  have hlt2 : (k : Int) ≤ (k : Int) + 1 := by omega
  have HO : Hid (prB (a0.extract k (k + 1)).data.toList = okb a0[k]) := one_of a0 k hlt
  have HB : Hid (okb a0[k] = decide (32 ≤ (a0[k].toNat : Int) ∧ (a0[k].toNat : Int) ≤ 126)) := rfl
  clear hlast h0
  have key : (a0.extract 0 k).toList.isEmpty = true ∧ prB a0.data.toList = prB (a0.extract k a0.size).data.toList ∨
      (a0.extract 0 k).toList.isEmpty = false ∧ prB (a0.extract 0 k).data.toList = false ∧ prB a0.data.toList = false ∨
      (a0.extract 0 k).toList.isEmpty = false ∧ prB (a0.extract 0 k).data.toList = true ∧ prB a0.data.toList = prB (a0.extract k a0.size).data.toList := by
    have e1 : (a0.extract 0 k).data.toList = a0.data.toList.take k := by rw [data_extract]; simp
    have e2 : (a0.extract k a0.size).data.toList = a0.data.toList.drop k := by rw [data_extract]; exact List.take_of_length_le (by simp)
    by_cases hk0 : k = 0
    · left
      refine ⟨toList_isEmpty_true _ (by rw [ByteArray.size_extract]; omega), ?_⟩
      rw [e2, hk0]; rfl
    · right
      have hne : (a0.extract 0 k).toList.isEmpty = false := toList_isEmpty_false _ (by rw [ByteArray.size_extract]; omega)
      have hsp := prB_split a0.data.toList k (by rw [← e1, ← ByteArray.toList_eq]; exact hne) (by rw [← e2, ← ByteArray.toList_eq]; exact ht)
      rw [← e1, ← e2] at hsp
      cases hb : prB (a0.extract 0 k).data.toList with
      | false => left; rw [hb] at hsp; exact ⟨hne, rfl, by rw [hsp]; rfl⟩
      | true => right; rw [hb] at hsp; exact ⟨hne, rfl, by rw [hsp]; rfl⟩
  obtain ⟨n, hn⟩ : ∃ n : Int, (a0[k].toNat : Int) = n := ⟨_, rfl⟩
  have cls : (∃ b, Hid (prB (a0.extract k (k + 1)).data.toList = b) ∧ b = false ∧ n < 32) ∨ (∃ b, Hid (prB (a0.extract k (k + 1)).data.toList = b) ∧ b = true ∧ 32 ≤ n ∧ n ≤ 126) ∨ (∃ b, Hid (prB (a0.extract k (k + 1)).data.toList = b) ∧ b = false ∧ n = 127) ∨ (∃ b, Hid (prB (a0.extract k (k + 1)).data.toList = b) ∧ b = false ∧ 128 ≤ n) := by
    have hb := HO.out.trans HB.out
    rw [hn] at hb
    by_cases c1 : n < 32
    · left; exact ⟨_, hb, by simp; omega, c1⟩
    by_cases c2 : n ≤ 126
    · right; left; exact ⟨_, hb, by simp; omega, by omega, c2⟩
    by_cases c3 : n = 127
    · right; right; left; exact ⟨_, hb, by simp; omega, c3⟩
    · right; right; right; exact ⟨_, hb, by simp; omega, by omega⟩
  clear HB HO
  rcases key with ⟨hh, hw⟩ | ⟨hh, hd, hw⟩ | ⟨hh, hd, hw⟩
  · cases hb : prB a0.data.toList with
    | false =>
      have H1 : Hid (prB a0.data.toList = false) := hb
      have H3 : Hid (prB (a0.extract k a0.size).data.toList = false) := hw.symm.trans hb
      clear hb hw
      rcases cls with ⟨b1, HO, rfl, c1⟩ | ⟨b1, HO, rfl, c1, c2⟩ | ⟨b1, HO, rfl, c1⟩ | ⟨b1, HO, rfl, c1⟩
      · go_enter Try.func3, Try.ntmps3
        go_wp2_with (first | (go_at_call 6; go_in))
        refine (prin_val (a0) _ hs false H1).mono ?_
        rintro e w' ⟨rfl, rfl⟩
        go_wp2_with fail
        refine (prin_val (a0.extract k a0.size) _ (size_ext _ _ _ hs) false H3).mono ?_
        rintro e w' ⟨rfl, rfl⟩
        go_wp2_with fail
        refine (prin_val (a0.extract k (k + 1)) _ (size_ext _ _ _ hs) false HO).mono ?_
        rintro e w' ⟨rfl, rfl⟩
        go_wp2
        go_ret
        exact ⟨rfl, Grown.refl _⟩
      · have c3 : (n != 127) = true := by simp; omega
        go_enter Try.func3, Try.ntmps3
        go_wp2_with (first | (go_at_call 6; go_in))
        refine (prin_val (a0) _ hs false H1).mono ?_
        rintro e w' ⟨rfl, rfl⟩
        go_wp2_with fail
        refine (prin_val (a0.extract k a0.size) _ (size_ext _ _ _ hs) false H3).mono ?_
        rintro e w' ⟨rfl, rfl⟩
        go_wp2_with fail
        refine (prin_val (a0.extract k (k + 1)) _ (size_ext _ _ _ hs) true HO).mono ?_
        rintro e w' ⟨rfl, rfl⟩
        go_wp2
        go_ret
        exact ⟨rfl, Grown.refl _⟩
      · go_enter Try.func3, Try.ntmps3
        go_wp2_with (first | (go_at_call 6; go_in))
        refine (prin_val (a0) _ hs false H1).mono ?_
        rintro e w' ⟨rfl, rfl⟩
        go_wp2_with fail
        refine (prin_val (a0.extract k a0.size) _ (size_ext _ _ _ hs) false H3).mono ?_
        rintro e w' ⟨rfl, rfl⟩
        go_wp2_with fail
        refine (prin_val (a0.extract k (k + 1)) _ (size_ext _ _ _ hs) false HO).mono ?_
        rintro e w' ⟨rfl, rfl⟩
        go_wp2
        go_ret
        exact ⟨rfl, Grown.refl _⟩
      · go_enter Try.func3, Try.ntmps3
        go_wp2_with (first | (go_at_call 6; go_in))
        refine (prin_val (a0) _ hs false H1).mono ?_
        rintro e w' ⟨rfl, rfl⟩
        go_wp2_with fail
        refine (prin_val (a0.extract k a0.size) _ (size_ext _ _ _ hs) false H3).mono ?_
        rintro e w' ⟨rfl, rfl⟩
        go_wp2_with fail
        refine (prin_val (a0.extract k (k + 1)) _ (size_ext _ _ _ hs) false HO).mono ?_
        rintro e w' ⟨rfl, rfl⟩
        go_wp2
        go_ret
        exact ⟨rfl, Grown.refl _⟩
    | true =>
      have H1 : Hid (prB a0.data.toList = true) := hb
      have H3 : Hid (prB (a0.extract k a0.size).data.toList = true) := hw.symm.trans hb
      clear hb hw
      rcases cls with ⟨b1, HO, rfl, c1⟩ | ⟨b1, HO, rfl, c1, c2⟩ | ⟨b1, HO, rfl, c1⟩ | ⟨b1, HO, rfl, c1⟩
      · go_enter Try.func3, Try.ntmps3
        go_wp2_with (first | (go_at_call 6; go_in))
        refine (prin_val (a0) _ hs true H1).mono ?_
        rintro e w' ⟨rfl, rfl⟩
        go_wp2_with fail
        refine (prin_val (a0.extract k a0.size) _ (size_ext _ _ _ hs) true H3).mono ?_
        rintro e w' ⟨rfl, rfl⟩
        go_wp2_with fail
        refine (prin_val (a0.extract k (k + 1)) _ (size_ext _ _ _ hs) false HO).mono ?_
        rintro e w' ⟨rfl, rfl⟩
        go_wp2
        go_ret
        exact ⟨rfl, Grown.refl _⟩
      · have c3 : (n != 127) = true := by simp; omega
        go_enter Try.func3, Try.ntmps3
        go_wp2_with (first | (go_at_call 6; go_in))
        refine (prin_val (a0) _ hs true H1).mono ?_
        rintro e w' ⟨rfl, rfl⟩
        go_wp2_with fail
        refine (prin_val (a0.extract k a0.size) _ (size_ext _ _ _ hs) true H3).mono ?_
        rintro e w' ⟨rfl, rfl⟩
        go_wp2_with fail
        refine (prin_val (a0.extract k (k + 1)) _ (size_ext _ _ _ hs) true HO).mono ?_
        rintro e w' ⟨rfl, rfl⟩
        go_wp2
        go_ret
        exact ⟨rfl, Grown.refl _⟩
      · go_enter Try.func3, Try.ntmps3
        go_wp2_with (first | (go_at_call 6; go_in))
        refine (prin_val (a0) _ hs true H1).mono ?_
        rintro e w' ⟨rfl, rfl⟩
        go_wp2_with fail
        refine (prin_val (a0.extract k a0.size) _ (size_ext _ _ _ hs) true H3).mono ?_
        rintro e w' ⟨rfl, rfl⟩
        go_wp2_with fail
        refine (prin_val (a0.extract k (k + 1)) _ (size_ext _ _ _ hs) false HO).mono ?_
        rintro e w' ⟨rfl, rfl⟩
        go_wp2
        go_ret
        exact ⟨rfl, Grown.refl _⟩
      · go_enter Try.func3, Try.ntmps3
        go_wp2_with (first | (go_at_call 6; go_in))
        refine (prin_val (a0) _ hs true H1).mono ?_
        rintro e w' ⟨rfl, rfl⟩
        go_wp2_with fail
        refine (prin_val (a0.extract k a0.size) _ (size_ext _ _ _ hs) true H3).mono ?_
        rintro e w' ⟨rfl, rfl⟩
        go_wp2_with fail
        refine (prin_val (a0.extract k (k + 1)) _ (size_ext _ _ _ hs) false HO).mono ?_
        rintro e w' ⟨rfl, rfl⟩
        go_wp2
        go_ret
        exact ⟨rfl, Grown.refl _⟩
  · have H2 : Hid (prB (a0.extract 0 k).data.toList = false) := hd
    have H1 : Hid (prB a0.data.toList = false) := hw
    clear hd hw
    rcases cls with ⟨b1, HO, rfl, c1⟩ | ⟨b1, HO, rfl, c1, c2⟩ | ⟨b1, HO, rfl, c1⟩ | ⟨b1, HO, rfl, c1⟩
    · go_enter Try.func3, Try.ntmps3
      go_wp2_with (first | (go_at_call 6; go_in))
      refine (prin_val (a0) _ hs false H1).mono ?_
      rintro e w' ⟨rfl, rfl⟩
      go_wp2_with fail
      refine (prin_val (a0.extract 0 k) _ (size_ext _ _ _ hs) false H2).mono ?_
      rintro e w' ⟨rfl, rfl⟩
      go_wp2_with fail
      refine (prin_val (a0.extract k (k + 1)) _ (size_ext _ _ _ hs) false HO).mono ?_
      rintro e w' ⟨rfl, rfl⟩
      go_wp2
      go_ret
      exact ⟨rfl, Grown.refl _⟩
    · have c3 : (n != 127) = true := by simp; omega
      go_enter Try.func3, Try.ntmps3
      go_wp2_with (first | (go_at_call 6; go_in))
      refine (prin_val (a0) _ hs false H1).mono ?_
      rintro e w' ⟨rfl, rfl⟩
      go_wp2_with fail
      refine (prin_val (a0.extract 0 k) _ (size_ext _ _ _ hs) false H2).mono ?_
      rintro e w' ⟨rfl, rfl⟩
      go_wp2_with fail
      refine (prin_val (a0.extract k (k + 1)) _ (size_ext _ _ _ hs) true HO).mono ?_
      rintro e w' ⟨rfl, rfl⟩
      go_wp2
      go_ret
      exact ⟨rfl, Grown.refl _⟩
    · go_enter Try.func3, Try.ntmps3
      go_wp2_with (first | (go_at_call 6; go_in))
      refine (prin_val (a0) _ hs false H1).mono ?_
      rintro e w' ⟨rfl, rfl⟩
      go_wp2_with fail
      refine (prin_val (a0.extract 0 k) _ (size_ext _ _ _ hs) false H2).mono ?_
      rintro e w' ⟨rfl, rfl⟩
      go_wp2_with fail
      refine (prin_val (a0.extract k (k + 1)) _ (size_ext _ _ _ hs) false HO).mono ?_
      rintro e w' ⟨rfl, rfl⟩
      go_wp2
      go_ret
      exact ⟨rfl, Grown.refl _⟩
    · go_enter Try.func3, Try.ntmps3
      go_wp2_with (first | (go_at_call 6; go_in))
      refine (prin_val (a0) _ hs false H1).mono ?_
      rintro e w' ⟨rfl, rfl⟩
      go_wp2_with fail
      refine (prin_val (a0.extract 0 k) _ (size_ext _ _ _ hs) false H2).mono ?_
      rintro e w' ⟨rfl, rfl⟩
      go_wp2_with fail
      refine (prin_val (a0.extract k (k + 1)) _ (size_ext _ _ _ hs) false HO).mono ?_
      rintro e w' ⟨rfl, rfl⟩
      go_wp2
      go_ret
      exact ⟨rfl, Grown.refl _⟩
  · have H2 : Hid (prB (a0.extract 0 k).data.toList = true) := hd
    clear hd
    cases hb : prB a0.data.toList with
    | false =>
      have H1 : Hid (prB a0.data.toList = false) := hb
      have H3 : Hid (prB (a0.extract k a0.size).data.toList = false) := hw.symm.trans hb
      clear hb hw
      rcases cls with ⟨b1, HO, rfl, c1⟩ | ⟨b1, HO, rfl, c1, c2⟩ | ⟨b1, HO, rfl, c1⟩ | ⟨b1, HO, rfl, c1⟩
      · go_enter Try.func3, Try.ntmps3
        go_wp2_with (first | (go_at_call 6; go_in))
        refine (prin_val (a0) _ hs false H1).mono ?_
        rintro e w' ⟨rfl, rfl⟩
        go_wp2_with fail
        refine (prin_val (a0.extract 0 k) _ (size_ext _ _ _ hs) true H2).mono ?_
        rintro e w' ⟨rfl, rfl⟩
        go_wp2_with fail
        refine (prin_val (a0.extract k a0.size) _ (size_ext _ _ _ hs) false H3).mono ?_
        rintro e w' ⟨rfl, rfl⟩
        go_wp2_with fail
        refine (prin_val (a0.extract k (k + 1)) _ (size_ext _ _ _ hs) false HO).mono ?_
        rintro e w' ⟨rfl, rfl⟩
        go_wp2
        go_ret
        exact ⟨rfl, Grown.refl _⟩
      · have c3 : (n != 127) = true := by simp; omega
        go_enter Try.func3, Try.ntmps3
        go_wp2_with (first | (go_at_call 6; go_in))
        refine (prin_val (a0) _ hs false H1).mono ?_
        rintro e w' ⟨rfl, rfl⟩
        go_wp2_with fail
        refine (prin_val (a0.extract 0 k) _ (size_ext _ _ _ hs) true H2).mono ?_
        rintro e w' ⟨rfl, rfl⟩
        go_wp2_with fail
        refine (prin_val (a0.extract k a0.size) _ (size_ext _ _ _ hs) false H3).mono ?_
        rintro e w' ⟨rfl, rfl⟩
        go_wp2_with fail
        refine (prin_val (a0.extract k (k + 1)) _ (size_ext _ _ _ hs) true HO).mono ?_
        rintro e w' ⟨rfl, rfl⟩
        go_wp2
        go_ret
        exact ⟨rfl, Grown.refl _⟩
      · go_enter Try.func3, Try.ntmps3
        go_wp2_with (first | (go_at_call 6; go_in))
        refine (prin_val (a0) _ hs false H1).mono ?_
        rintro e w' ⟨rfl, rfl⟩
        go_wp2_with fail
        refine (prin_val (a0.extract 0 k) _ (size_ext _ _ _ hs) true H2).mono ?_
        rintro e w' ⟨rfl, rfl⟩
        go_wp2_with fail
        refine (prin_val (a0.extract k a0.size) _ (size_ext _ _ _ hs) false H3).mono ?_
        rintro e w' ⟨rfl, rfl⟩
        go_wp2_with fail
        refine (prin_val (a0.extract k (k + 1)) _ (size_ext _ _ _ hs) false HO).mono ?_
        rintro e w' ⟨rfl, rfl⟩
        go_wp2
        go_ret
        exact ⟨rfl, Grown.refl _⟩
      · go_enter Try.func3, Try.ntmps3
        go_wp2_with (first | (go_at_call 6; go_in))
        refine (prin_val (a0) _ hs false H1).mono ?_
        rintro e w' ⟨rfl, rfl⟩
        go_wp2_with fail
        refine (prin_val (a0.extract 0 k) _ (size_ext _ _ _ hs) true H2).mono ?_
        rintro e w' ⟨rfl, rfl⟩
        go_wp2_with fail
        refine (prin_val (a0.extract k a0.size) _ (size_ext _ _ _ hs) false H3).mono ?_
        rintro e w' ⟨rfl, rfl⟩
        go_wp2_with fail
        refine (prin_val (a0.extract k (k + 1)) _ (size_ext _ _ _ hs) false HO).mono ?_
        rintro e w' ⟨rfl, rfl⟩
        go_wp2
        go_ret
        exact ⟨rfl, Grown.refl _⟩
    | true =>
      have H1 : Hid (prB a0.data.toList = true) := hb
      have H3 : Hid (prB (a0.extract k a0.size).data.toList = true) := hw.symm.trans hb
      clear hb hw
      rcases cls with ⟨b1, HO, rfl, c1⟩ | ⟨b1, HO, rfl, c1, c2⟩ | ⟨b1, HO, rfl, c1⟩ | ⟨b1, HO, rfl, c1⟩
      · go_enter Try.func3, Try.ntmps3
        go_wp2_with (first | (go_at_call 6; go_in))
        refine (prin_val (a0) _ hs true H1).mono ?_
        rintro e w' ⟨rfl, rfl⟩
        go_wp2_with fail
        refine (prin_val (a0.extract 0 k) _ (size_ext _ _ _ hs) true H2).mono ?_
        rintro e w' ⟨rfl, rfl⟩
        go_wp2_with fail
        refine (prin_val (a0.extract k a0.size) _ (size_ext _ _ _ hs) true H3).mono ?_
        rintro e w' ⟨rfl, rfl⟩
        go_wp2_with fail
        refine (prin_val (a0.extract k (k + 1)) _ (size_ext _ _ _ hs) false HO).mono ?_
        rintro e w' ⟨rfl, rfl⟩
        go_wp2
        go_ret
        exact ⟨rfl, Grown.refl _⟩
      · have c3 : (n != 127) = true := by simp; omega
        go_enter Try.func3, Try.ntmps3
        go_wp2_with (first | (go_at_call 6; go_in))
        refine (prin_val (a0) _ hs true H1).mono ?_
        rintro e w' ⟨rfl, rfl⟩
        go_wp2_with fail
        refine (prin_val (a0.extract 0 k) _ (size_ext _ _ _ hs) true H2).mono ?_
        rintro e w' ⟨rfl, rfl⟩
        go_wp2_with fail
        refine (prin_val (a0.extract k a0.size) _ (size_ext _ _ _ hs) true H3).mono ?_
        rintro e w' ⟨rfl, rfl⟩
        go_wp2_with fail
        refine (prin_val (a0.extract k (k + 1)) _ (size_ext _ _ _ hs) true HO).mono ?_
        rintro e w' ⟨rfl, rfl⟩
        go_wp2
        go_ret
        exact ⟨rfl, Grown.refl _⟩
      · go_enter Try.func3, Try.ntmps3
        go_wp2_with (first | (go_at_call 6; go_in))
        refine (prin_val (a0) _ hs true H1).mono ?_
        rintro e w' ⟨rfl, rfl⟩
        go_wp2_with fail
        refine (prin_val (a0.extract 0 k) _ (size_ext _ _ _ hs) true H2).mono ?_
        rintro e w' ⟨rfl, rfl⟩
        go_wp2_with fail
        refine (prin_val (a0.extract k a0.size) _ (size_ext _ _ _ hs) true H3).mono ?_
        rintro e w' ⟨rfl, rfl⟩
        go_wp2_with fail
        refine (prin_val (a0.extract k (k + 1)) _ (size_ext _ _ _ hs) false HO).mono ?_
        rintro e w' ⟨rfl, rfl⟩
        go_wp2
        go_ret
        exact ⟨rfl, Grown.refl _⟩
      · go_enter Try.func3, Try.ntmps3
        go_wp2_with (first | (go_at_call 6; go_in))
        refine (prin_val (a0) _ hs true H1).mono ?_
        rintro e w' ⟨rfl, rfl⟩
        go_wp2_with fail
        refine (prin_val (a0.extract 0 k) _ (size_ext _ _ _ hs) true H2).mono ?_
        rintro e w' ⟨rfl, rfl⟩
        go_wp2_with fail
        refine (prin_val (a0.extract k a0.size) _ (size_ext _ _ _ hs) true H3).mono ?_
        rintro e w' ⟨rfl, rfl⟩
        go_wp2_with fail
        refine (prin_val (a0.extract k (k + 1)) _ (size_ext _ _ _ hs) false HO).mono ?_
        rintro e w' ⟨rfl, rfl⟩
        go_wp2
        go_ret
        exact ⟨rfl, Grown.refl _⟩

/-! ### THE ROW's STEP: WRITTEN OUT: LEAVE IT -/
set_option maxRecDepth 100000 in
theorem lifted (os : Os) (started : os.Started) (H : Type) (enc : TypeId × Value → H) :
    ReturnsInHanded {} Try.checked os 3 .any (Rows.fnIsPrincipalCutAnywhereSpec.pre6 enc Try.prog Try.f3 Rows.fnIsPrincipalCutAnywhereRow.domain false) (Rows.fnIsPrincipalCutAnywhereSpec.post enc Try.prog Try.f3 false true false false) := by
  refine returnsInHanded_of_change (C := Try.checked) own started (by kernel_rfl) Try.func3
    (ChangeSpec.witness6 (enc := enc) (C := Try.checked) false ⟨#[], #[.string ByteArray.empty, .int .i64 0], []⟩ 8 (by kernel_rfl) (by kernel_rfl) (by kernel_rfl) (by kernel_rfl)) ?_
  intro W base args ds gs before hval0 hW hcnd _
  have hval : ∀ (j : Nat) t v, Try.f3.params[j]? = some t → args[j]? = some v → Value.okWide Try.prog W .any base t v := hval0
  have hW' := hW
  obtain ⟨p, q, hA0, hV, rfl, hfz, hnd⟩ := hW
  have hA : DataW.TrodAll enc Try.prog W 0 (fun _ => true) true Try.f3.params.toList args.toList ds p := hA0
  rw [Try.params3] at hA hval
  obtain ⟨v0, vs0, d0, ds0, p0, q0, hargs, rfl, rfl, h0, r0⟩ := trodAll_cons hA
  obtain ⟨v1, vs1, d1, ds1, p1, q1, rfl, rfl, rfl, h1, r1⟩ := trodAll_cons r0
  obtain ⟨rfl, rfl, rfl⟩ := trodAll_nil r1
  obtain rfl : args = #[v0, v1] := by cases args; simp_all
  obtain ⟨rfl, rfl⟩ := trodVars_none hV
  obtain ⟨a0, rfl, rfl, rfl, w0⟩ := open_string Try.underlying9 (hval 0 9 v0 rfl rfl) h0
  obtain ⟨a1, rfl, rfl, rfl, w1⟩ := open_int Try.underlying3 (hval 1 3 v1 rfl rfl) h1
  clear hA0 hval0
  simp only [List.append_nil] at hW'
  refine (walk a0 a1 w0 w1 W).mono fun e W' ⟨he, hg⟩ => ?_
  subst he
  exact ⟨_, rfl, post_of_same (pa := []) (pv := []) hW' (fun _ _ _ => (trodAll_cons_mk (shut_bool Try.underlying4 _) trodAll_mk0)) (fun sp _ => (trodAll_cons_mk (shut_string Try.underlying9 w0) (trodAll_cons_mk (shut_int Try.underlying3 w1) trodAll_mk0))) (fun _ _ => rfl) rfl
    (hg.frame _) hg.2.1 (ok_one (by kernel_rfl) rfl (okWide_bool_mk Try.underlying4 _))⟩

theorem over : Rows.fnIsPrincipalCutAnywhereRow.holds Try.pinned (OpenSpec.ofChange Rows.fnIsPrincipalCutAnywhereSpec) :=
  OpenClaim.holds_of_wide 3 Try.f3 rfl rfl rfl rfl rfl rfl rfl ⟨rfl, rfl, rfl, rfl, rfl⟩ rfl rfl rfl rfl rfl (by kernel_rfl) Try.func3 (by kernel_rfl)
    (of_decide_eq_true (by kernel_rfl)) (by unfold Func.isWrapper; first | (rw [if_pos (by decide +kernel)]; kernel_rfl) | (rw [if_neg (by decide +kernel)]; exact ⟨rfl, rfl⟩))
    (fun os started H enc _ => lifted os started H enc)

/-- ████ THE STATEMENT ████ -/
theorem proved : Rows.FnIsPrincipalCutAnywhereSaid :=
  over
end Go.Proofs.Qxb6619200a.fnIsPrincipalCutAnywhere
