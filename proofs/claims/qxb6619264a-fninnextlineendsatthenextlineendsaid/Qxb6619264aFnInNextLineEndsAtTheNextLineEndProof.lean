import Derived.Test.Qxb6619264aRows
import Derived.WalkKit
import Derived.ProofKit
import Derived.OpenShut
import Derived.ShutString
import Derived.ChangeOld
import Derived.Below
import Derived.Deep.Slices
import Derived.Test.Qxb6619264aInL
namespace Go.Proofs.Qxb6619264a.fnInNextLineEndsAtTheNextLineEnd
open Go.ChangeShapes Go.WideShapes Go.ChangeAt Go.RowKit
open Go.Proofs.Qxb6619264a.InW Go.Proofs.Qxb6619264a.W
set_option linter.unusedVariables false

theorem own : ownKnob Try.prog.godebug = none := by kernel_rfl
theorem laidOut : laidOutB Try.prog = true := by kernel_rfl

/-- what the walk is told of a slice of integers that came in -/
def IsRow (k : IntKind) (w : World) (a : Option Addr) (len cap : Nat) (zs : List Int) : Prop :=
  (a = none ∧ len = 0 ∧ cap = 0 ∧ zs = []) ∨
  ∃ x, a = some x ∧ len ≤ cap ∧ cap ≤ maxLen ∧ zs.length = cap ∧ (∀ i, i < zs.length → w.cell? (x.add i) = some (.int k (zs.getD i 0))) ∧ ∀ n ∈ zs, (Lit.int k n).wf = true

/-- .. of a slice of bools -/
def IsBools (w : World) (a : Option Addr) (len cap : Nat) (V : Nat → Bool) : Prop :=
  (a = none ∧ len = 0 ∧ cap = 0) ∨
  ∃ x, a = some x ∧ len ≤ cap ∧ cap ≤ maxLen ∧ ∀ i, i < len → w.cell? (x.add i) = some (.bool (V i))

theorem add_none {x : Addr} {w : World} {v : Value} (h : w.cell? (x.add 0) = some v) : ∃ b o, x = ⟨b, o, none⟩ := by
  obtain ⟨b, o, spot⟩ := x
  have hspot : spot = none := by simpa [Addr.add] using World.cell?_spot h
  subst hspot
  exact ⟨b, o, rfl⟩
theorem add_eq (b o i : Nat) : (⟨b, o, none⟩ : Addr).add i = ⟨b, o + i, none⟩ := by unfold Addr.add; split <;> simp_all

set_option maxRecDepth 10000 in
set_option maxHeartbeats 2000000 in
theorem walk (a0 : Int) (u : Option Addr) (lu cu : Nat) (zs : List Int) (v : Option Addr) (lv cv : Nat) (V : Nat → Bool) (w : World) (w0 : (Lit.int .i64 a0).wf = true) (w1 : IsRow .u16 w u lu cu zs) (w2 : IsBools w v lv cv V) :
    Calls Try.prog 4 #[.int .i64 a0, .slice u lu cu, .slice v lv cv] w fun e w' => e = .returned (.bool true) ∧ Below w.heap.size w w' := by
  obtain ⟨b00, b01⟩ := bounds_i64 w0
  have mu : lu ≤ 9223372036854775807 := by
    rcases w1 with ⟨_, h, _⟩ | ⟨_, _, h, h', _⟩ <;> (try unfold maxLen at h') <;> omega
  have mv : lv ≤ 9223372036854775807 := by
    rcases w2 with ⟨_, h, _⟩ | ⟨_, _, h, h', _⟩ <;> (try unfold maxLen at h') <;> omega
  have H1 : Hid (IsRow .u16 w u lu cu zs) := w1
  have H2 : Hid (IsBools w v lv cv V) := w2
  clear w0 w1 w2
  by_cases c1 : lu ≤ 65536 ∧ lv ≤ 65536
  · obtain ⟨d1, d2⟩ := c1
    by_cases c2 : lu = 0
    · subst c2
      go_enter Try.func4, Try.ntmps4
      go_wp2_with (first | (go_at_call 23; go_in))
      go_ret
      exact ⟨rfl, Below.refl _ _⟩
    · by_cases c3 : lv = lu
      · subst c3
        have hz : ((lv : Int) == 0) = false := by simp; omega
        by_cases c4 : a0 < 0
        · go_enter Try.func4, Try.ntmps4
          go_wp2_with (first | (go_at_call 23; go_in))
          go_ret
          exact ⟨rfl, Below.refl _ _⟩
        · by_cases c5 : 9223372036854775807 ≤ a0
          · have hwr : wrap64 (a0 + 1) < a0 := by unfold wrap64; omega
            go_enter Try.func4, Try.ntmps4
            go_wp2_with (first | (go_at_call 23; go_in))
            go_ret
            exact ⟨rfl, Below.refl _ _⟩
          · rcases H1.out with ⟨_, h, _⟩ | ⟨x, rfl, hl, hm, hzl, hcell, hwz⟩
            · exact absurd h c2
            · rcases H2.out with ⟨_, h, _⟩ | ⟨y, rfl, hl', hm', hcell'⟩
              · exact absurd h c2
              · obtain ⟨bu, ou, rfl⟩ := add_none (hcell 0 (by omega))
                obtain ⟨bw, ow, rfl⟩ := add_none (hcell' 0 (by omega))
                refine law_core a0 bu ou cu bw ow cv lv (fun i => zs.getD i 0) V w (by omega) d1 (by omega) (by omega) ?_ ?_ ?_ ?_ ?_
                · intro i hi
                  have hm : zs.getD i 0 ∈ zs := by
                    rw [List.getD_eq_getElem?_getD, List.getElem?_eq_getElem (show i < zs.length by omega)]
                    exact List.getElem_mem _
                  exact bounds_u16 (hwz _ hm)
                · intro i hi
                  rw [← add_eq]; exact hcell i (by omega)
                · intro i hi
                  rw [← add_eq]; exact hcell' i hi
                · have := World.block_lt_of_cell? w _ (hcell 0 (by omega)); simpa [add_eq] using this
                · have := World.block_lt_of_cell? w _ (hcell' 0 (by omega)); simpa [add_eq] using this
      · have hne : ((lv : Int) == (lu : Int)) = false := by simp; omega
        have hz : ((lu : Int) == 0) = false := by simp; omega
        go_enter Try.func4, Try.ntmps4
        go_wp2_with (first | (go_at_call 23; go_in))
        all_goals
          go_ret
          exact ⟨rfl, Below.refl _ _⟩
  · have c2 : 65536 < (lu : Int) ∨ 65536 < (lv : Int) := by omega
    clear c1
    rcases c2 with c2 | c2
    all_goals
      go_enter Try.func4, Try.ntmps4
      go_wp2_with (first | (go_at_call 23; go_in))
      all_goals
        go_ret
        exact ⟨rfl, Below.refl _ _⟩

set_option maxRecDepth 100000 in
theorem lifted (os : Os) (started : os.Started) (H : Type) (enc : TypeId × Value → H) :
    ReturnsInHanded {} Try.checked os 4 .any (Rows.fnInNextLineEndsAtTheNextLineEndSpec.pre6 enc Try.prog Try.f4 Rows.fnInNextLineEndsAtTheNextLineEndRow.domain false) (Rows.fnInNextLineEndsAtTheNextLineEndSpec.post enc Try.prog Try.f4 false true false false) := by
  refine returnsInHanded_of_change (C := Try.checked) own started (by kernel_rfl) Try.func4
    (ChangeSpec.witness6 (enc := enc) (C := Try.checked) false ⟨#[], #[.int .i64 0, .slice none 0 0, .slice none 0 0], []⟩ 8 (by kernel_rfl) (by kernel_rfl) (by kernel_rfl) (by kernel_rfl)) ?_
  intro W base args ds gs before hval0 hW hcnd _
  have hval : ∀ (j : Nat) t v, Try.f4.params[j]? = some t → args[j]? = some v → Value.okWide Try.prog W .any base t v := hval0
  have hW' := hW
  obtain ⟨p, q, hA0, hV, rfl, hfz, hnd⟩ := hW
  have hA : DataW.TrodAll enc Try.prog W 0 (fun _ => true) true Try.f4.params.toList args.toList ds p := hA0
  rw [Try.params4] at hA hval
  obtain ⟨v0, vs0, d0, ds0, p0, q0, hargs, rfl, rfl, h0, r0⟩ := trodAll_cons hA
  obtain ⟨v1, vs1, d1, ds1, p1, q1, rfl, rfl, rfl, h1, r1⟩ := trodAll_cons r0
  obtain ⟨v2, vs2, d2, ds2, p2, q2, rfl, rfl, rfl, h2, r2⟩ := trodAll_cons r1
  obtain ⟨rfl, rfl, rfl⟩ := trodAll_nil r2
  obtain rfl : args = #[v0, v1, v2] := by cases args; simp_all
  obtain ⟨rfl, rfl⟩ := trodVars_none hV
  obtain ⟨a0, rfl, rfl, rfl, w0⟩ := open_int Try.underlying3 (hval 0 3 v0 rfl rfl) h0
  obtain ⟨u, lu, cu, rfl⟩ := okWide_slice Try.underlying43 (hval 1 43 v1 rfl rfl)
  have k1 := h1
  have lt1 : ∀ x ∈ p1, x.block < W.heap.size := by obtain ⟨m, hm⟩ := k1; exact DataW.trod_lt m _ _ _ hm
  obtain ⟨zs, w1⟩ : ∃ zs, IsRow .u16 W u lu cu zs := by
    obtain ⟨fuel, hf⟩ := h1
    rcases open_ints Try.underlying43 Try.underlying25 (by kernel_rfl) hf with ⟨hcs, _⟩ | ⟨x, l, c, zs, hcs, _, hl, hm, hz, _, hcell, hwz⟩
    · simp [Value.cells] at hcs
      obtain ⟨rfl, rfl, rfl⟩ := hcs
      exact ⟨[], .inl ⟨rfl, rfl, rfl, rfl⟩⟩
    · simp [Value.cells] at hcs
      obtain ⟨rfl, rfl, rfl⟩ := hcs
      exact ⟨zs, .inr ⟨_, rfl, hl, hm, by simpa using hz, hcell, hwz⟩⟩
  obtain ⟨v, lv, cv, rfl⟩ := okWide_slice Try.underlying44 (hval 2 44 v2 rfl rfl)
  have k2 := h2
  have lt2 : ∀ x ∈ p2, x.block < W.heap.size := by obtain ⟨m, hm⟩ := k2; exact DataW.trod_lt m _ _ _ hm
  obtain ⟨V, w2⟩ : ∃ V, IsBools W v lv cv V := by
    obtain ⟨fuel, hf⟩ := h2
    rcases Deep.open_slice1 Try.underlying44 (by kernel_rfl) hf with ⟨hcs, _⟩ | ⟨x, l, c, m, n, Vv, D, Pl, hcs, _, hl, hm, hmm, _, hcell⟩
    · simp [Value.cells] at hcs
      obtain ⟨rfl, rfl, rfl⟩ := hcs
      exact ⟨fun _ => false, .inl ⟨rfl, rfl, rfl⟩⟩
    · simp [Value.cells] at hcs
      obtain ⟨rfl, rfl, rfl⟩ := hcs
      have hb : ∀ i, i < lv → ∃ b, Vv i = .bool b := fun i hi => by
        obtain ⟨b, e, _⟩ := DataW.trod_bool Try.underlying4 (hcell i (by rw [hmm]; simp; omega)).2
        simp at e
        exact ⟨b, e⟩
      obtain ⟨V, hV⟩ := Deep.choose_lt hb
      exact ⟨V, .inr ⟨_, rfl, hl, hm, fun i hi => by rw [← hV i hi]; exact (hcell i (by rw [hmm]; simp; omega)).1⟩⟩
  clear hA0 hval0
  refine (walk a0 u lu cu zs v lv cv V W w0 w1 w2).mono fun e W' ⟨he, bel⟩ => ?_
  subst he
  exact ⟨_, rfl, _, _, _, [], _, [], hW', trodAll_mk1 (shut_bool Try.underlying4 _), (trodAll_cons_mk (shut_int Try.underlying3 w0) (trodAll_cons_mk (Below.trod laidOut (by kernel_rfl) (of_decide_eq_true (by kernel_rfl)) k1 bel lt1) (trodAll_cons_mk (Below.trod laidOut (by kernel_rfl) (of_decide_eq_true (by kernel_rfl)) k2 bel lt2) trodAll_mk0))), rfl, bel.frame _, fun h => by cases h⟩

theorem over : Rows.fnInNextLineEndsAtTheNextLineEndRow.holds Try.pinned (OpenSpec.ofChange Rows.fnInNextLineEndsAtTheNextLineEndSpec) :=
  OpenClaim.holds_of_wide 4 Try.f4 rfl rfl rfl rfl rfl rfl rfl ⟨rfl, rfl, rfl, rfl, rfl⟩ rfl rfl rfl rfl rfl (by kernel_rfl) Try.func4 (by kernel_rfl)
    (of_decide_eq_true (by kernel_rfl)) (by unfold Func.isWrapper; first | (rw [if_pos (by decide +kernel)]; kernel_rfl) | (rw [if_neg (by decide +kernel)]; exact ⟨rfl, rfl⟩))
    (fun os started H enc _ => lifted os started H enc)

theorem proved : Rows.FnInNextLineEndsAtTheNextLineEndSaid :=
  over
end Go.Proofs.Qxb6619264a.fnInNextLineEndsAtTheNextLineEnd
