import Derived.Test.Qxb6619264aCl
import Derived.Deep.QuietTactic
import Derived.BigQuiet
import Derived.WalkSmall
namespace Go.Proofs.Qxb6619264a.Cl
open Go.RowKit Go.Proofs.Qxb6619264a.W

theorem drewN_below (w : World) (n : Nat) : Below w.heap.size w (w.drewN n) := by
  exact ⟨rfl, rfl, rfl, Nat.le_refl _, fun _ _ => rfl⟩

set_option maxHeartbeats 400000 in
theorem same (a1 a2 : Option Addr) (n c1 c2 : Nat) (C : Nat → Int) (w : World) (hn : n ≤ 1048576) (hnil : a1.isNone = a2.isNone)
    (h1 : In w a1 n (fun i => .int .i32 (C i))) (h2 : In w a2 n (fun i => .int .i32 (C i))) :
    Calls Try.prog 21 #[.slice a1 n c1, .slice a2 n c2] w fun e w' => e = .returned (.bool true) ∧ Below w.heap.size w w' := by
  have q1 := fun w => Lib.run_eql_slice_nil (P := Try.prog) w 22 21 a1 n c1 0 0 Try.underlying22
  have q2 := fun w => Lib.run_eql_slice_nil (P := Try.prog) w 22 21 a2 n c2 0 0 Try.underlying22
  rw [hnil] at q1
  have H1 : Hid (In w a1 n (fun i => .int .i32 (C i))) := h1
  have H2 : Hid (In w a2 n (fun i => .int .i32 (C i))) := h2
  clear h1 h2 hnil
  rcases H1.out with hz | ⟨b, o, rfl, hb, hc⟩
  · subst hz
    go_enter Try.func21, Try.ntmps21
    go_wp2
    go_loop [5] (fun i => i = .int .i64 0) (fun _ => 0)
    case atStart => exact rfl
    case round =>
      subst hrel
      go_wp2
      go_ret
      exact ⟨rfl, Below.refl _ _⟩
  · rcases H2.out with hz | ⟨b', o', rfl, hb', hc'⟩
    · subst hz
      go_enter Try.func21, Try.ntmps21
      go_wp2
      go_loop [5] (fun i => i = .int .i64 0) (fun _ => 0)
      case atStart => exact rfl
      case round =>
        subst hrel
        go_wp2
        go_ret
        exact ⟨rfl, Below.refl _ _⟩
    · have HC : Hid (∀ i, i < n → w.cell? ⟨b, o + i, none⟩ = some (.int .i32 (C i))) := hc
      have HC' : Hid (∀ i, i < n → w.cell? ⟨b', o' + i, none⟩ = some (.int .i32 (C i))) := hc'
      clear hc hc'
      go_enter Try.func21, Try.ntmps21
      go_wp2
      go_loopw [5] (fun i wr => ∃ k : Nat, k ≤ n ∧ i = .int .i64 k ∧ Below w.heap.size w wr) (fun i _ => n - (intOf i).toNat)
      case atStart => exact ⟨0, Nat.zero_le _, rfl, Below.refl _ _⟩
      case round =>
        obtain ⟨k, hk, rfl, hbel⟩ := hrel
        by_cases hlt : k < n
        · have g1 : wr.cell? ⟨b, o + k, none⟩ = some (.int .i32 (C k)) := (hbel.cell (p := ⟨b, o + k, none⟩) hb).trans (HC.out k hlt)
          have g2 : wr.cell? ⟨b', o' + k, none⟩ = some (.int .i32 (C k)) := (hbel.cell (p := ⟨b', o' + k, none⟩) hb').trans (HC'.out k hlt)
          have g3 : (0 : Int) ≤ (k : Int) := by omega
          have g4 : (k : Int) < (n : Int) := by omega
          go_wp2
          go_quiet (fail)
          go_wp2
          go_roundw
          case rel => exact ⟨k + 1, hlt, by go_num, hbel.trans ((drewN_below _ _).mono hbel.size)⟩
          case measure => simp [intOf]; omega
        · go_wp2
          go_ret
          exact ⟨rfl, hbel⟩

end Go.Proofs.Qxb6619264a.Cl
